import Derived.Test.Qxb6626481aAmt
import Derived.Test.Qxb6626481aBytes
namespace Go.Proofs.Qxb6626481a
open Go.RowKit

theorem info5 : (Try.prog.info? 5).map (fun i => (i.zero, i.size, i.bytes)) = some (some (.int .u8 0), 1, 1) := by kernel_rfl
theorem info33 : (Try.prog.info? 33).map (fun i => (i.zero, i.size, i.bytes)) = some (some (.int .u64 0), 1, 8) := by kernel_rfl

/-- 'make([]byte, x)', x a number from 0 on. -/
theorem make_bytes (x : Int) (n : Nat) (hx : x = n) (hl : n ≤ 2000000) (w : World) :
    (Instr.makeSlice 32 (.int .i64 x) (.int .i64 x)).run Try.prog w = .ok (.slice (some ⟨w.heap.size, 0, none⟩) n n) (w.alloc (.cells (madeCells #[.int .u8 0] n) 5)) := by
  subst hx
  obtain ⟨i0, hi, hz0, hz1, hz2⟩ := info_parts info5
  have h := run_make (P := Try.prog) w 32 5 i0 (.int .u8 0) Try.underlying32 hi hz0 .i64 .i64 n n (by omega) (by omega) (by rw [hz2]; omega) (by omega)
  simpa only [hz1, Value.cells, Int.toNat_natCast, Nat.mul_one] using h
/-- 'make([]uint64, x)'. -/
theorem make_words (x : Int) (n : Nat) (hx : x = n) (hl : n ≤ 2000000) (w : World) :
    (Instr.makeSlice 22 (.int .i64 x) (.int .i64 x)).run Try.prog w = .ok (.slice (some ⟨w.heap.size, 0, none⟩) n n) (w.alloc (.cells (madeCells #[.int .u64 0] n) 33)) := by
  subst hx
  obtain ⟨i0, hi, hz0, hz1, hz2⟩ := info_parts info33
  have h := run_make (P := Try.prog) w 22 33 i0 (.int .u64 0) Try.underlying22 hi hz0 .i64 .i64 n n (by omega) (by omega) (by rw [hz2]; omega) (by omega)
  simpa only [hz1, Value.cells, Int.toNat_natCast, Nat.mul_one] using h

theorem natbytes_at (g gb k cap cb N L : Nat) (f m : Nat → Int) (w : World) (hr : Row w g .u64 53 N f) (hkN : k ≤ N) (hkc : k ≤ cap) (hf : ∀ j, j < k → f j = m j) (hm : Words m) (h0 : 0 < k) (hl : k ≤ 131072)
    (hb : Row w gb .u8 5 (8 * k) (fun _ => 0)) (hne : g ≠ gb) (hL : L = 8 * k) (hcb : 8 * k ≤ cb) :
    Calls Try.prog 33 #[.slice (some ⟨g, 0, none⟩) k cap, .slice (some ⟨gb, 0, none⟩) L cb] w fun e w' =>
      ∃ i : Nat, i ≤ 8 * k ∧ e = .returned (.int .i64 i) ∧ (∀ p, p < i → byt m (8 * k - 1 - p) = 0) ∧ (i < 8 * k → byt m (8 * k - 1 - i) ≠ 0) ∧ Row w' gb .u8 5 (8 * k) (fun p => byt m (8 * k - 1 - p)) ∧ w.grownBy w' (some gb) := by
  subst hL
  exact natbytes_any g gb k cap cb N f m w hr hkN hkc hf hm h0 hl hb hne hcb

set_option maxHeartbeats 400000 in
/-- (*math/big.Int).Bytes of an Int that is not 0. -/
theorem Bytes_any (p : Nat) (neg : Bool) (m : Nat → Int) (k : Nat) (w : World) (h : Big w p neg m k) (hm : Words m) (h0 : 0 < k) (hl : k ≤ 131072) (htop : m (k - 1) ≠ 0) :
    Calls Try.prog 28 #[.pointer (some ⟨p, 0, none⟩)] w fun e w' =>
      ∃ i : Nat, i < 8 ∧ e = .returned (.slice (some ⟨w.heap.size, i, none⟩) (8 * k - i) (8 * k - i)) ∧ (∀ p, p < i → byt m (8 * k - 1 - p) = 0) ∧ Row w' w.heap.size .u8 5 (8 * k) (fun p => byt m (8 * k - 1 - p)) ∧ w.grownBy w' none := by
  obtain ⟨ao, cap, hp, hn⟩ := h
  rcases hn with ⟨_, hk, _⟩ | ⟨g, N, f, rfl, hgp, hkN, hkc, hcap, hr, hf⟩
  · omega
  have c1 := hp.cell1
  have hlt := hp.lt
  have hgl := hr.lt
  have hmk := fun w : World => make_bytes ((k : Int) * 8) (8 * k) (by omega) (by omega) w
  have HF : Hid (∀ j, j < k → f j = m j) := hf
  have HT : Hid (m (k - 1) ≠ 0) := htop
  clear hf htop
  go_enter Try.func28, Try.ntmps28
  go_wp2_with fail
  refine (natbytes_at g w.heap.size k cap _ N _ f m _ (hr.alloc _) hkN hkc HF.out hm h0 hl (Row.made w .u8 5 (8 * k)) (by omega) rfl (Nat.le_refl _)).mono ?_
  rintro e w1 ⟨i, hi, rfl, hz, _, hrow, hg⟩
  have hi8 := lead_lt m k i hm h0 HT.out hz
  have HZ : Hid (∀ p, p < i → byt m (8 * k - 1 - p) = 0) := hz
  have HR : Hid (Row w1 w.heap.size .u8 5 (8 * k) (fun p => byt m (8 * k - 1 - p))) := hrow
  clear hz hrow
  go_wp2
  go_ret
  exact ⟨i, hi8, rfl, HZ.out, HR.out, gb_new (gb_alloc _ _ _) hg (Nat.le_refl _)⟩
end Go.Proofs.Qxb6626481a
