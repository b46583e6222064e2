import Derived.Test.Qxb6626481aInt2
import Derived.WideShapes
namespace Go.Proofs.Qxb6626481a
open Go.RowKit Go.WideShapes

theorem run_copy_ints {P : Program} (w : World) (dT sT ty elem : TypeId) (hu : P.underlying dT = some (.slice elem)) (hs : (P.info? elem).map (·.size) = some 1) (g n dCap sCap N : Nat) (k : IntKind) (e : TypeId) (f0 f : Nat → Int) (a : Addr)
    (hd : Row w g k e N f0) (hn : n ≤ N) (hsrc : ∀ j, j < n → w.cell? (a.add j) = some (.int k (f j))) :
    ∃ w', (Builtin.copy_ #[dT, sT] ty #[.slice (some ⟨g, 0, none⟩) n dCap, .slice (some a) n sCap]).run P w = .ok (.int .i64 n) w' ∧ Row w' g k e N (fun j => if j < n then f j else f0 j) ∧ w.grownBy w' (some g) := by
  obtain ⟨cur, hg, hsz, hc⟩ := hd
  have hlen : ((List.range n).map fun j => Value.int k (f j)).length = n := by simp
  have hrun := run_copy_row (P := P) w dT sT ty elem g 0 n dCap a n sCap cur e ((List.range n).map fun j => Value.int k (f j)) hu hs hg (by simp)
    (by
      intro j v hj
      by_cases hjn : j < n
      · simp [hjn] at hj
        rw [← hj]; exact hsrc j hjn
      · simp [hjn] at hj)
    (by simp; omega) (by intro v hv; simp at hv; obtain ⟨j, _, rfl⟩ := hv; rfl)
  rw [hlen] at hrun
  refine ⟨_, hrun, ⟨_, setRow_heap w g _ _ e _ hg, ?_, ?_⟩, rfl, rfl, rfl, by simp [World.setRow], fun i _ hr => setRow_other w g i _ (by simpa using hr)⟩
  · simp [hsz]; omega
  · intro j hj
    by_cases hjn : j < n
    · simp [hjn, List.getElem?_append]
    · have := hc j hj
      simp [hjn, List.getElem?_append]
      rw [show n + (j - n) = j from by omega]
      exact this

theorem size53 : (Try.prog.info? 53).map (·.size) = some 1 := by kernel_rfl
theorem size33 : (Try.prog.info? 33).map (·.size) = some 1 := by kernel_rfl

theorem make_row (x : Int) (n : Nat) (hx : x = n) (w : World) (h0 : 0 < n) (hl : n ≤ 200000) :
    Calls Try.prog 30 #[.slice none 0 0, .int .i64 x] w fun e w' => ∃ c, n ≤ c ∧ c ≤ n + 4 ∧ e = .returned (.slice (some ⟨w.heap.size, 0, none⟩) n c) ∧ Row w' w.heap.size .u64 53 c (fun _ => 0) ∧ w.grownBy w' none := by
  refine (make_at x n hx w h0 hl).mono ?_
  rintro e w' ⟨c, h1, h2, rfl, rfl⟩
  exact ⟨c, h1, h2, rfl, Row.made w .u64 53 c, gb_alloc _ _ _⟩

set_option maxHeartbeats 400000 in
/-- (math/big.nat).set from nil, of a row that is not empty. -/
theorem natset_any (g k cap N : Nat) (f : Nat → Int) (w : World) (hr : Row w g .u64 53 N f) (hk : k ≤ N) (h0 : 0 < k) (hl : k ≤ 190000) :
    Calls Try.prog 26 #[.slice none 0 0, .slice (some ⟨g, 0, none⟩) k cap] w fun e w' =>
      ∃ c, k ≤ c ∧ c ≤ k + 4 ∧ e = .returned (.slice (some ⟨w.heap.size, 0, none⟩) k c) ∧ Row w' w.heap.size .u64 53 c (fun j => if j < k then f j else 0) ∧ w.grownBy w' none := by
  have hgl := hr.lt
  go_enter Try.func26, Try.ntmps26
  go_wp2_with fail
  refine (make_row _ k (by omega) _ h0 (by omega)).mono ?_
  rintro e w1 ⟨c, hc1, hc2, rfl, hrow, hg⟩
  have hsrc := hr.grown hg (by simp)
  obtain ⟨w2, hrun, hrow2, hg2⟩ := run_copy_ints (P := Try.prog) w1 36 36 3 53 Try.underlying36 size53 w.heap.size k c cap c .u64 53 (fun _ => 0) f ⟨g, 0, none⟩ hrow hc1 (fun j hj => by rw [add_plain, Nat.zero_add]; exact hsrc.cell (by omega))
  have HR := hrow2
  clear hrow2
  go_wp2
  go_ret
  exact ⟨c, hc1, hc2, rfl, HR, gb_new hg hg2 (Nat.le_refl _)⟩

theorem natset_nil (ao : Option Addr) (cap : Nat) (w : World) :
    Calls Try.prog 26 #[.slice none 0 0, .slice ao 0 cap] w fun e w' => e = .returned (.slice none 0 0) ∧ w' = w := by
  have hrun := fun w : World => run_copy_none (P := Try.prog) w 36 36 3 53 none ao 0 0 0 cap Try.underlying36 size53 rfl
  go_enter Try.func26, Try.ntmps26
  go_wp2_with (go_at_call 30; refine (make_nil _).mono ?_; rintro e w' ⟨rfl, rfl⟩)
  go_ret
  exact ⟨rfl, rfl⟩
end Go.Proofs.Qxb6626481a
