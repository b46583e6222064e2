import Derived.Test.Qxb6626481aNorm
import Derived.Test.Qxb6626481aBE
namespace Go.Proofs.Qxb6626481a
open Go.RowKit

set_option maxHeartbeats 800000 in
/-- (math/big.nat).setBytes: 8 n bytes, the greatest first, into a new row of n words. -/
theorem setBytes_any (gb n cb : Nat) (f m : Nat → Int) (w : World) (hr : Row w gb .u8 5 (8 * n) f) (hf : ∀ j, 0 ≤ f j ∧ f j ≤ 255) (h0 : 0 < n) (hl : n ≤ 131072) (hcb : cb = 8 * n)
    (hm : ∀ k, k < n → m k = spell f (8 * (n - 1 - k))) :
    Calls Try.prog 24 #[.slice none 0 0, .slice (some ⟨gb, 0, none⟩) (8 * n) cb] w fun e w' =>
      ∃ k c, IsNrm m n k ∧ n ≤ c ∧ c ≤ n + 4 ∧ e = .returned (.slice (some ⟨w.heap.size, 0, none⟩) k c) ∧ Row w' w.heap.size .u64 53 c (fun j => if j < n then m j else 0) ∧ w.grownBy w' none := by
  have hgl := hr.lt
  have HM : Hid (∀ k, k < n → m k = spell f (8 * (n - 1 - k))) := hm
  clear hm
  subst hcb
  go_enter Try.func24, Try.ntmps24
  go_wp2_with (go_at_call 30; refine (make_at _ n (by omega) _ h0 (by omega)).mono ?_; rintro e w' ⟨c, hc1, hc2, rfl, rfl⟩)
  go_loopw [5, 6] (fun i k wr => ∃ q : Nat, q ≤ n ∧ i = .int .i64 (8 * ((n - q : Nat) : Int)) ∧ k = .int .i64 q ∧ Row wr w.heap.size .u64 53 c (fun j => if j < q then m j else 0) ∧ w.grownBy wr none) (fun i _ _ => (intOf i).toNat)
  case atStart => exact ⟨0, Nat.zero_le _, by simp, rfl, (Row.made w .u64 53 c).congr (fun _ _ => by simp), gb_alloc _ _ _⟩
  case round =>
    obtain ⟨q, hq, rfl, rfl, hz, hg⟩ := hrel
    have hb := hr.grown hg (by simp)
    by_cases hlt : q < n
    · obtain ⟨d, hd⟩ : ∃ d, n - q = d + 1 := ⟨n - q - 1, by omega⟩
      rw [hd]
      have hfz := hz.frozen q
      obtain ⟨v0, hcz⟩ : ∃ v, wr.cell? ⟨w.heap.size, q, none⟩ = some v := ⟨_, hz.cell (by omega)⟩
      have HZ : Hid (Row wr w.heap.size .u64 53 c (fun j => if j < q then m j else 0)) := hz
      clear hz
      go_wp2_with (go_at_call 31; refine (bew_at gb _ _ _ (8 * n) f _ hb (by omega) (by omega) hf).mono ?_; rintro e w' ⟨rfl, nq, rfl⟩)
      go_roundw
      case rel =>
        refine ⟨q + 1, by omega, by rw [show n - (q + 1) = d from by omega]; go_num, by go_num, ?_, ?_⟩
        · refine (HZ.out.store q _ _ ?_ ?_ :)
          · simp only [Nat.lt_succ_self, if_true]
            rw [HM.out q hlt, show n - 1 - q = d from by omega, show 8 * (d + 1) - 8 = 8 * d from by omega]
          · intro i _ hne
            by_cases h : i < q
            · rw [if_pos h, if_pos (by omega)]
            · rw [if_neg h, if_neg (by omega)]
        · exact gb_new (gb_step hg (gb_drewN wr nq none)) (gb_set _ _ q _) (Nat.le_refl _)
      case measure => simp [intOf]; omega
    · have hqn : q = n := by omega
      subst hqn
      rw [Nat.sub_self]
      go_wp2_with (go_at_call 32; refine (norm_any w.heap.size _ c c (fun j => if j < q then m j else 0) _ hz hc1 hc1 (by omega)).mono ?_; rintro e w' ⟨⟨k, hk, rfl⟩, rfl⟩)
      go_ret
      exact ⟨k, c, hk.congr (fun j hj => by simp [hj]), hc1, hc2, rfl, hz, hg⟩

theorem setBytes_nil (g c : Nat) (w : World) :
    Calls Try.prog 24 #[.slice none 0 0, .slice (some ⟨g, 0, none⟩) 0 c] w fun e w' => e = .returned (.slice none 0 0) ∧ w' = w := by
  go_enter Try.func24, Try.ntmps24
  go_wp2_with (go_at_call 30; refine (make_nil _).mono ?_; rintro e w' ⟨rfl, rfl⟩)
  go_loop [5, 6] (fun i _ => i = .int .i64 0) (fun i _ => (intOf i).toNat)
  case atStart => rfl
  case round =>
    obtain rfl := hrel
    go_wp2_with (go_at_call 32; refine (norm_nil _).mono ?_; rintro e w' ⟨rfl, rfl⟩)
    go_ret
    exact ⟨rfl, rfl⟩
end Go.Proofs.Qxb6626481a
