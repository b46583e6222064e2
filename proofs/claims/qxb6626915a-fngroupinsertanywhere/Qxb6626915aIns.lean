import Derived.Test.Qxb6626915aAb
import Derived.Test.Qxb6626915aZz5
import Derived.Test.Qxb6626915aStamp
import Derived.Deep.RegionWith
namespace Go.Proofs.Qxb6626915a
open Go.RowKit

/-- The groups 'gs' with 'g0' put in at place 'm'. -/
def ins (m : Nat) (gs : Nat → GD) (g0 : GD) (i : Nat) : GD := if i < m then gs i else if i = m then g0 else gs (i - 1)

theorem ins_lt {m i : Nat} (gs : Nat → GD) (g0 : GD) (h : i < m) : ins m gs g0 i = gs i := if_pos h
theorem ins_at (m : Nat) (gs : Nat → GD) (g0 : GD) : ins m gs g0 m = g0 := by simp [ins]
theorem ins_gt {m i : Nat} (gs : Nat → GD) (g0 : GD) (h : m ≤ i) : ins m gs g0 (i + 1) = gs i := by
  unfold ins
  rw [if_neg (by omega), if_neg (by omega), Nat.add_sub_cancel]

theorem ans_ins_before {gs : Nat → GD} {n m : Nat} {g0 g : GD} {ok : Bool} (hm : m ≤ n) (hin : InIs gs m g0.name true) (h : AnsIs gs n g0.name g ok) : AnsIs (ins m gs g0) (n + 1) g0.name g ok := by
  obtain ⟨j, hj, he⟩ := hin.1 rfl
  rcases h with ⟨k, hk, hk1, hk2, rfl, rfl⟩ | ⟨hno, _, _⟩
  · have hkm : k < m := by
      by_cases hkj : j < k
      · exact absurd he (hk2 j hkj)
      · omega
    exact .inl ⟨k, by omega, by rw [ins_lt gs g0 hkm]; exact hk1, fun i hi => by rw [ins_lt gs g0 (by omega)]; exact hk2 i hi, rfl, by rw [ins_lt gs g0 hkm]⟩
  · exact absurd he (hno j (by omega))

theorem ans_ins_here {gs : Nat → GD} {n m : Nat} {g0 : GD} (hm : m ≤ n) (hin : InIs gs m g0.name false) : AnsIs (ins m gs g0) (n + 1) g0.name (stamp g0) true := by
  refine .inl ⟨m, by omega, by rw [ins_at], fun i hi => ?_, rfl, by rw [ins_at]⟩
  rw [ins_lt gs g0 hi]
  intro e
  have := hin.2 ⟨i, hi, e⟩
  cases this

theorem ans_ins_other {gs : Nat → GD} {n m : Nat} {g0 g : GD} {name : ByteArray} {ok : Bool} (hm : m ≤ n) (hne : g0.name ≠ name) (h : AnsIs gs n name g ok) : AnsIs (ins m gs g0) (n + 1) name g ok := by
  rcases h with ⟨k, hk, hk1, hk2, rfl, rfl⟩ | ⟨hno, rfl, rfl⟩
  · by_cases hkm : k < m
    · exact .inl ⟨k, by omega, by rw [ins_lt gs g0 hkm]; exact hk1, fun i hi => by rw [ins_lt gs g0 (by omega)]; exact hk2 i hi, rfl, by rw [ins_lt gs g0 hkm]⟩
    · refine .inl ⟨k + 1, by omega, by rw [ins_gt gs g0 (by omega)]; exact hk1, fun i hi => ?_, rfl, by rw [ins_gt gs g0 (by omega)]⟩
      by_cases him : i < m
      · rw [ins_lt gs g0 him]; exact hk2 i (by omega)
      · by_cases hie : i = m
        · rw [hie, ins_at]; exact hne
        · obtain ⟨j, rfl⟩ : ∃ j, i = j + 1 := ⟨i - 1, by omega⟩
          rw [ins_gt gs g0 (by omega)]; exact hk2 j (by omega)
  · refine .inr ⟨fun i hi => ?_, rfl, rfl⟩
    by_cases him : i < m
    · rw [ins_lt gs g0 him]; exact hno i (by omega)
    · by_cases hie : i = m
      · rw [hie, ins_at]; exact hne
      · obtain ⟨j, rfl⟩ : ∃ j, i = j + 1 := ⟨i - 1, by omega⟩
        rw [ins_gt gs g0 (by omega)]; exact hno j (by omega)

theorem ins_n {gs : Nat → GD} {n m : Nat} {g0 : GD} (h : ∀ i, i < n → (gs i).n ≤ 1048576) (h0 : g0.n ≤ 1048576) (hm : m ≤ n) : ∀ i, i < n + 1 → (ins m gs g0 i).n ≤ 1048576 := by
  intro i hi
  by_cases him : i < m
  · rw [ins_lt gs g0 him]; exact h i (by omega)
  · by_cases hie : i = m
    · rw [hie, ins_at]; exact h0
    · obtain ⟨j, rfl⟩ : ∃ j, i = j + 1 := ⟨i - 1, by omega⟩
      rw [ins_gt gs g0 (by omega)]; exact h j (by omega)

theorem sameAns3 (g : GD) (ok : Bool) (vo vo' : Option Addr) (vc vc' : Nat) (w : World) (h1 : VAt w vo g.n g.gv g.ver) (h2 : VAt w vo' g.n g.gv g.ver) (hl : g.n ≤ 1048576) :
    Calls Try.prog 14 #[.agg #[.string g.kind, .string g.api, .string g.name, .slice vo g.n vc, .string g.pgv, .string g.pv], .bool ok, .agg #[.string g.kind, .string g.api, .string g.name, .slice vo' g.n vc', .string g.pgv, .string g.pv], .bool ok] w fun e w' => e = .returned (.bool true) ∧ w.grownBy w' none :=
  sameAnswer_same g ok vo vo' vc vc' w h1 h2 hl

theorem eqStamp (g : GD) (vo vo' : Option Addr) (vc vc' : Nat) (w : World) (h1 : VAt w vo g.n g.gv g.ver) (h2 : VAt w vo' g.n g.gv g.ver) (hl : g.n ≤ 1048576) :
    Calls Try.prog 15 #[.agg #[.string ⟨#[65, 80, 73, 71, 114, 111, 117, 112]⟩, .string ⟨#[118, 49]⟩, .string g.name, .slice vo g.n vc, .string g.pgv, .string g.pv], .agg #[.string ⟨#[65, 80, 73, 71, 114, 111, 117, 112]⟩, .string ⟨#[118, 49]⟩, .string g.name, .slice vo' g.n vc', .string g.pgv, .string g.pv]] w fun e w' => e = .returned (.bool true) ∧ w.grownBy w' none :=
  eqGroup_same (stamp g) vo vo' vc vc' w h1 h2 hl

theorem boxAt {wB w : World} {b : Nat} {c0 c1 c2 c3 c4 c5 : Value} (hA : wB.heap[b]? = some (.cells #[c0, c1, c2, c3, c4, c5] 27 (0, 0))) (hg : wB.grownBy w none) : w.heap[b]? = some (.cells #[c0, c1, c2, c3, c4, c5] 27 (0, 0)) :=
  (hg.block _ (lt_of_block hA) (by simp)).trans hA

theorem boxOld {w w' : World} {b : Nat} {c0 c1 c2 c3 c4 c5 : Value} (hA : w.heap[b]? = some (.cells #[c0, c1, c2, c3, c4, c5] 38 (0, 0))) (hg : w.grownBy w' none) : w'.heap[b]? = some (.cells #[c0, c1, c2, c3, c4, c5] 38 (0, 0)) :=
  (hg.block _ (lt_of_block hA) (by simp)).trans hA

set_option maxHeartbeats 4000000 in
set_option maxRecDepth 100000 in
theorem insert_walk (ao : Option Addr) (n cap : Nat) (gs : Nat → GD) (g0 : GD) (vo0 : Option Addr) (vc0 : Nat) (kk : Int) (name : ByteArray) (w0 : World) (hv : GsAt w0 ao n gs) (hg0 : VAt w0 vo0 g0.n g0.gv g0.ver) :
    Calls Try.prog 3 #[.slice ao n cap, .agg #[.string g0.kind, .string g0.api, .string g0.name, .slice vo0 g0.n vc0, .string g0.pgv, .string g0.pv], .int .i64 kk, .string name] w0 fun e w' => e = .returned (.bool true) ∧ w0.grownBy w' none := by
  obtain ⟨wB, hwB⟩ : ∃ wB, wB = w0.alloc (.cells #[.string g0.kind, .string g0.api, .string g0.name, .slice vo0 g0.n vc0, .string g0.pgv, .string g0.pv] 27) := ⟨_, rfl⟩
  have hA : wB.heap[w0.heap.size]? = some (.cells #[.string g0.kind, .string g0.api, .string g0.name, .slice vo0 g0.n vc0, .string g0.pgv, .string g0.pv] 27 (0, 0)) := by rw [hwB, heap_alloc_new]
  have hB : w0.grownBy wB none := by rw [hwB]; exact gb_alloc _ _ _
  have HW : Hid (wB = w0.alloc (.cells #[.string g0.kind, .string g0.api, .string g0.name, .slice vo0 g0.n vc0, .string g0.pgv, .string g0.pv] 27)) := hwB
  clear hwB
  go_enter Try.func3, Try.ntmps3
  go_wp2_with fail
  rw [← HW.out]
  refine (zzBytes5 ao n cap gs g0 vo0 vc0 kk name _ (hv.grown hB) (hg0.grown hB)).mono ?_
  rintro e w1 ⟨⟨b, rfl, hb⟩, hg1⟩
  cases b with
  | false =>
    clear hb
    go_wp2
    go_ret
    exact ⟨rfl, gb_trans hB hg1⟩
  | true =>
    obtain ⟨hgs, hgn⟩ := hb rfl
    clear hb
    have HGS : Hid (∀ i, i < n → (gs i).n ≤ 1048576) := hgs
    clear hgs
    by_cases h1 : 65536 < (n : Int)
    · go_wp2
      go_ret
      exact ⟨rfl, gb_trans hB hg1⟩
    have d1 : decide (65536 < (n : Int)) = false := decide_eq_false h1
    have hn16 : n ≤ 65536 := by omega
    obtain ⟨a0, a1, a2, a3, a4, a5⟩ := six_cells (boxAt hA hg1)
    go_wp2_with fail
    refine (addLen_any _ _ _).mono ?_
    rintro e w1' ⟨⟨t1, rfl⟩, hw⟩
    rw [hw]
    clear hw w1'
    go_wp2_with fail
    refine (sizeOfG_any t1 g0 vo0 vc0 _ (hg0.grown (gb_trans hB hg1)) hgn).mono ?_
    rintro e w2 ⟨⟨t2, rfl⟩, hg2⟩
    have G2 := gb_trans hg1 hg2
    clear hg2 hg1 a0 a1 a2 a3 a4 a5
    go_wp2_with fail
    refine (sizeOfGroups_any t2 ao n cap gs _ (hv.grown (gb_trans hB G2)) hn16 HGS.out).mono ?_
    rintro e w3 ⟨⟨t3, rfl⟩, hg3⟩
    have G3 := gb_trans G2 hg3
    clear G2 hg3
    by_cases h3 : 1048576 < t3
    · go_wp2
      go_ret
      exact ⟨rfl, gb_trans hB G3⟩
    have d3 : decide (1048576 < t3) = false := decide_eq_false h3
    by_cases h4 : kk < 0
    · go_wp2
      go_ret
      exact ⟨rfl, gb_trans hB G3⟩
    have d4 : decide (kk < 0) = false := decide_eq_false h4
    by_cases h5 : (n : Int) < kk
    · go_wp2
      go_ret
      exact ⟨rfl, gb_trans hB G3⟩
    have d5 : decide ((n : Int) < kk) = false := decide_eq_false h5
    obtain ⟨m, rfl⟩ : ∃ m : Nat, kk = m := ⟨kk.toNat, by omega⟩
    have hm : m ≤ n := by omega
    go_wp2_with fail
    refine (toGroups_any ao n cap gs _ (hv.grown (gb_trans hB G3)) hn16 HGS.out).mono ?_
    rintro e w4 ⟨vb, rfl, hbase, hg4⟩
    have G4 := gb_trans G3 hg4
    clear G3 hg4
    obtain ⟨w5, hmk, hab0, hg5⟩ := make_ab ((n : Int) + 1) (n + 1) (by omega) (by omega) w4 (ins m gs g0)
    have hsz5 := hg5.size
    go_wp2_with fail
    clear hmk
    go_loopw [11, 12] (fun v i wr => ∃ k : Nat, k ≤ m ∧ i = .int .i64 k ∧ AbIs wr w4.heap.size v k (ins m gs g0) ∧ World.grownBy w4 wr none ∧ w4.heap.size ≤ wr.heap.size) (fun _ i _ => m - (intOf i).toNat)
    case atStart => exact ⟨0, Nat.zero_le _, rfl, hab0, hg5, hsz5⟩
    case round =>
      clear hab0 hg5 hsz5
      obtain ⟨k, hk, rfl, hab, hg, hsz⟩ := hrel
      by_cases hlt : k < m
      · have hkn : k < n := by omega
        have hkn' : (k : Int) < (n : Int) := by omega
        rcases hv.grown (gb_trans hB (gb_trans G4 hg)) with h | ⟨b, o, hao, hcell⟩
        · omega
        subst hao
        have hcat : ins m gs g0 (k) = gs k := ins_lt gs g0 hlt
        have hs6 := hcell k hkn
        have hnk := HGS.out k hkn
        obtain ⟨g, hgk⟩ : ∃ g, gs k = g := ⟨_, rfl⟩
        rw [hgk] at hs6 hnk hcat
        obtain ⟨c0, c1, c2, ⟨vo, vc, c3, hvat⟩, c4, c5⟩ := hs6
        have HC : Hid (ins m gs g0 (k) = g) := hcat
        clear hcell hgk hcat
        go_wp2_with fail
        refine (toGroup_any g vo vc _ hvat hnk).mono ?_
        rintro e y5 ⟨ao', cap5, rfl, hvn, hg5⟩
        obtain ⟨v', y6, hap, hab6, hsz6, hfr⟩ := AbIs.append (hab.grown hg5) (Nat.le_trans hsz hg5.size) (by omega) (ao := ao') (cap := cap5) (by rw [HC.out]; exact hvn)
        rw [HC.out] at hap
        have HAP : Hid (∀ ty, _) := hap
        have G6 := hfr w4 (Nat.le_refl _) (gb_trans hg hg5)
        have hs56 := hg5.size
        clear c0 c1 c2 c3 c4 c5 hvat hap hfr
        go_wp2_with (at_builtin; refine wpList_ab rfl _ _ rfl _ _ v' y6 rfl rfl HAP.out ?_)
        go_roundw
        case rel => exact ⟨k + 1, by omega, by go_num, hab6, G6, by omega⟩
        case measure => simp [intOf]; omega
      · have hkm : k = m := by omega
        subst hkm
        obtain ⟨m, hmk⟩ : ∃ m, m = k := ⟨_, rfl⟩
        subst hmk
        obtain ⟨a0, a1, a2, a3, a4, a5⟩ := six_cells (boxAt hA (gb_trans G4 hg))
        have hvg := hg0.grown (gb_trans hB (gb_trans G4 hg))
        go_wp2_with fail
        refine (toGroup_any g0 vo0 vc0 _ hvg hgn).mono ?_
        rintro e y1 ⟨ao', cap5, rfl, hvn, hgy⟩
        obtain ⟨v', y2, hap, hab6, hsz6, hfr⟩ := AbIs.append (hab.grown hgy) (Nat.le_trans hsz hgy.size) (by omega) (ao := ao') (cap := cap5) (by rw [ins_at]; exact hvn)
        rw [ins_at] at hap
        have HAP : Hid (∀ ty, _) := hap
        have G6 := hfr w4 (Nat.le_refl _) (gb_trans hg hgy)
        have hs56 := hgy.size
        clear a0 a1 a2 a3 a4 a5 hvg hap hfr hvn hab
        go_wp2_with (at_builtin; refine wpList_ab rfl _ _ rfl _ _ v' y2 rfl rfl HAP.out ?_)
        clear HAP
        have hsz2 : w4.heap.size ≤ y2.heap.size := by omega
        clear hsz hsz6 hs56 hg hgy
        go_loopw [11, 13] (fun v i wr => ∃ k : Nat, m ≤ k ∧ k ≤ n ∧ i = .int .i64 k ∧ AbIs wr w4.heap.size v (k + 1) (ins m gs g0) ∧ World.grownBy w4 wr none ∧ w4.heap.size ≤ wr.heap.size) (fun _ i _ => n - (intOf i).toNat)
        case atStart => exact ⟨m, Nat.le_refl _, hm, rfl, hab6, G6, hsz2⟩
        case round =>
          clear hab6 G6 hsz2
          obtain ⟨k, hmk, hk, rfl, hab, hg, hsz⟩ := hrel
          by_cases hlt : k < n
          · have hkn' : (k : Int) < (n : Int) := by omega
            rcases hv.grown (gb_trans hB (gb_trans G4 hg)) with h | ⟨b, o, hao, hcell⟩
            · omega
            subst hao
            have hcat : ins m gs g0 (k + 1) = gs k := ins_gt gs g0 hmk
            have hs6 := hcell k hlt
            have hnk := HGS.out k hlt
            obtain ⟨g, hgk⟩ : ∃ g, gs k = g := ⟨_, rfl⟩
            rw [hgk] at hs6 hnk hcat
            obtain ⟨c0, c1, c2, ⟨vo, vc, c3, hvat⟩, c4, c5⟩ := hs6
            have HC : Hid (ins m gs g0 (k + 1) = g) := hcat
            clear hcell hgk hcat
            go_wp2_with fail
            refine (toGroup_any g vo vc _ hvat hnk).mono ?_
            rintro e y5 ⟨ao', cap5, rfl, hvn, hg5⟩
            obtain ⟨v', y6, hap, hab6, hsz6, hfr⟩ := AbIs.append (hab.grown hg5) (Nat.le_trans hsz hg5.size) (by omega) (ao := ao') (cap := cap5) (by rw [HC.out]; exact hvn)
            rw [HC.out] at hap
            have HAP : Hid (∀ ty, _) := hap
            have G6 := hfr w4 (Nat.le_refl _) (gb_trans hg hg5)
            have hs56 := hg5.size
            clear c0 c1 c2 c3 c4 c5 hvat hap hfr
            go_wp2_with (at_builtin; refine wpList_ab rfl _ _ rfl _ _ v' y6 rfl rfl HAP.out ?_)
            go_roundw
            case rel => exact ⟨k + 1, by omega, by omega, by go_num, hab6, G6, by omega⟩
            case measure => simp [intOf]; omega
          · have hkn : k = n := by omega
            subst hkn
            obtain ⟨n, hnk⟩ : ∃ n, n = k := ⟨_, rfl⟩
            subst hnk
            have hrab := hab.rownew
            have J0 := gb_trans G4 hg
            have hrb := hbase.grown hg
            clear hab hsz hg
            go_wp2_with fail
            refine (newIdx vb n gs _ hrb).mono ?_
            rintro e x1 ⟨rfl, hia, k1⟩
            have J1 := gb_trans J0 k1
            have hrab1 := hrab.grown k1
            obtain ⟨XA, hXA⟩ : ∃ X, wr.heap.size = X := ⟨_, rfl⟩
            rw [hXA] at hia ⊢
            clear hrb hrab k1 J0 hXA
            go_wp2_with fail
            refine (newIdx _ (n + 1) (ins m gs g0) _ hrab1).mono ?_
            rintro e x2 ⟨rfl, hix, k2⟩
            have J2 := gb_trans J1 k2
            have hia2 := hia.grown k2
            obtain ⟨XX, hXX⟩ : ∃ X, x1.heap.size = X := ⟨_, rfl⟩
            rw [hXX] at hix ⊢
            clear hrab1 k2 J1 hia hXX
            obtain ⟨a0, a1, a2, a3, a4, a5⟩ := six_cells (boxAt hA J2)
            go_wp2_with fail
            refine (idxGroup XX (n + 1) (ins m gs g0) g0.name _ hix (by omega)).mono ?_
            rintro e x3 ⟨gx, okx, vox, vcx, rfl, hax, hvx, k3⟩
            have J3 := gb_trans (gb_trans J2 k3) (gb_alloc x3 (.cells #[.string gx.kind, .string gx.api, .string gx.name, .slice vox gx.n vcx, .string gx.pgv, .string gx.pv] 38) none)
            have B3 := heap_alloc_new x3 (.cells #[.string gx.kind, .string gx.api, .string gx.name, .slice vox gx.n vcx, .string gx.pgv, .string gx.pv] 38)
            have V3 := hvx.grown (gb_alloc x3 (.cells #[.string gx.kind, .string gx.api, .string gx.name, .slice vox gx.n vcx, .string gx.pgv, .string gx.pv] 38) none)
            have A3 := (hia2.grown k3).grown (gb_alloc x3 (.cells #[.string gx.kind, .string gx.api, .string gx.name, .slice vox gx.n vcx, .string gx.pgv, .string gx.pv] 38) none)
            have I3 := (hix.grown k3).grown (gb_alloc x3 (.cells #[.string gx.kind, .string gx.api, .string gx.name, .slice vox gx.n vcx, .string gx.pgv, .string gx.pv] 38) none)
            have jl3 : w0.heap.size < x3.heap.size := by have h1 := lt_of_block hA; have h2 := (gb_trans J2 k3).size; omega
            clear hix J2 hia2 k3 hvx a0 a1 a2 a3 a4 a5
            obtain ⟨X3, hX3⟩ : ∃ X, X = x3.alloc (.cells #[.string gx.kind, .string gx.api, .string gx.name, .slice vox gx.n vcx, .string gx.pgv, .string gx.pv] 38) := ⟨_, rfl⟩
            rw [← hX3] at J3 B3 V3 A3 I3
            have HX3 : Hid (X3 = x3.alloc (.cells #[.string gx.kind, .string gx.api, .string gx.name, .slice vox gx.n vcx, .string gx.pgv, .string gx.pv] 38)) := hX3
            clear hX3
            obtain ⟨GB, hGB⟩ : ∃ X, x3.heap.size = X := ⟨_, rfl⟩
            rw [hGB] at B3
            have HGB : Hid (x3.heap.size = GB) := hGB
            clear hGB
            obtain ⟨a0, a1, a2, a3, a4, a5⟩ := six_cells (boxAt hA J3)
            have cN : (x3.alloc (.cells #[.string gx.kind, .string gx.api, .string gx.name, .slice vox gx.n vcx, .string gx.pgv, .string gx.pv] 38)).cell? ⟨w0.heap.size, 2, none⟩ = some (.string g0.name) := by rw [← HX3.out]; exact a2
            go_wp2_with fail
            rw [← HX3.out, HGB.out]
            clear cN
            refine (nameIn_any ao n cap gs m g0.name _ (hv.grown (gb_trans hB J3)) hm hn16).mono ?_
            rintro e x4 ⟨⟨inK, rfl, hinK⟩, hw⟩
            rw [hw]
            clear hw x4
            cases inK with
            | true =>
              go_wp2_with fail
              refine (idxGroup XA n gs g0.name _ A3 (by omega)).mono ?_
              rintro e x4 ⟨ga, oka, voa, vca, rfl, haa, hva, k4⟩
              obtain ⟨hg1, hg2⟩ := ans_uniq hax (ans_ins_before hm hinK haa)
              subst hg1 hg2
              have hnx := ans_n haa HGS.out
              have J4 := gb_trans (gb_trans J3 k4) (gb_alloc x4 (.cells #[.string gx.kind, .string gx.api, .string gx.name, .slice voa gx.n vca, .string gx.pgv, .string gx.pv] 38) none)
              have I4 := (I3.grown k4).grown (gb_alloc x4 (.cells #[.string gx.kind, .string gx.api, .string gx.name, .slice voa gx.n vca, .string gx.pgv, .string gx.pv] 38) none)
              have A4 := (A3.grown k4).grown (gb_alloc x4 (.cells #[.string gx.kind, .string gx.api, .string gx.name, .slice voa gx.n vca, .string gx.pgv, .string gx.pv] 38) none)
              have V4 := ((V3.grown k4).grown (gb_alloc x4 (.cells #[.string gx.kind, .string gx.api, .string gx.name, .slice voa gx.n vca, .string gx.pgv, .string gx.pv] 38) none)).at
              have U4 := (hva.grown (gb_alloc x4 (.cells #[.string gx.kind, .string gx.api, .string gx.name, .slice voa gx.n vca, .string gx.pgv, .string gx.pv] 38) none)).at
              obtain ⟨b0, b1, b2, b3, b4, b5⟩ := six_cells (boxOld B3 k4)
              have lt4 : GB < x4.heap.size := by have h1 := lt_of_block B3; have h2 := k4.size; omega
              clear J3 B3 V3 I3 A3 k4 hva hinK a0 a1 a2 a3 a4 a5
              go_wp2_with fail
              refine (sameAns3 gx okx voa vox vca vcx _ U4 V4 hnx).mono ?_
              rintro e x5 ⟨rfl, k5⟩
              have J := gb_trans J4 k5
              have I := I4.grown k5
              have A := A4.grown k5
              clear J4 I4 A4 V4 U4 k5 b0 b1 b2 b3 b4 b5 lt4
              obtain ⟨a0, a1, a2, a3, a4, a5⟩ := six_cells (boxAt hA J)
              by_cases hne : name = g0.name
              · have hne1 := str_eq g0.name
                subst hne
                go_wp2
                go_ret
                exact ⟨rfl, gb_trans hB J⟩
              have hne1 := str_ne hne
              have hne2 : g0.name ≠ name := fun e => hne e.symm
              clear hne
              go_wp2_with fail
              refine (idxGroup XA n gs name _ A (by omega)).mono ?_
              rintro e z1 ⟨ha, oha, vp, cp, rfl, han, hvp, q1⟩
              have J1 := gb_trans (gb_trans J q1) (gb_alloc z1 (.cells #[.string ha.kind, .string ha.api, .string ha.name, .slice vp ha.n cp, .string ha.pgv, .string ha.pv] 38) none)
              have D1 := heap_alloc_new z1 (.cells #[.string ha.kind, .string ha.api, .string ha.name, .slice vp ha.n cp, .string ha.pgv, .string ha.pv] 38)
              have V1 := hvp.grown (gb_alloc z1 (.cells #[.string ha.kind, .string ha.api, .string ha.name, .slice vp ha.n cp, .string ha.pgv, .string ha.pv] 38) none)
              have I1 := (I.grown q1).grown (gb_alloc z1 (.cells #[.string ha.kind, .string ha.api, .string ha.name, .slice vp ha.n cp, .string ha.pgv, .string ha.pv] 38) none)
              clear a0 a1 a2 a3 a4 a5 J I A q1 hvp
              go_wp2_with fail
              refine (idxGroup XX (n + 1) (ins m gs g0) name _ I1 (by omega)).mono ?_
              rintro e z2 ⟨hb, ohb, vq, cq, rfl, hbn, hvq, q2⟩
              obtain ⟨hh1, hh2⟩ := ans_uniq hbn (ans_ins_other hm hne2 han)
              subst hh1 hh2
              have hnn := ans_n han HGS.out
              have J2 := gb_trans (gb_trans J1 q2) (gb_alloc z2 (.cells #[.string hb.kind, .string hb.api, .string hb.name, .slice vq hb.n cq, .string hb.pgv, .string hb.pv] 38) none)
              have D2 := ((gb_trans q2 (gb_alloc z2 (.cells #[.string hb.kind, .string hb.api, .string hb.name, .slice vq hb.n cq, .string hb.pgv, .string hb.pv] 38) none)).block _ (lt_of_block D1) (by simp)).trans D1
              have E2 := heap_alloc_new z2 (.cells #[.string hb.kind, .string hb.api, .string hb.name, .slice vq hb.n cq, .string hb.pgv, .string hb.pv] 38)
              have V2 := ((V1.grown q2).grown (gb_alloc z2 (.cells #[.string hb.kind, .string hb.api, .string hb.name, .slice vq hb.n cq, .string hb.pgv, .string hb.pv] 38) none)).at
              have U2 := (hvq.grown (gb_alloc z2 (.cells #[.string hb.kind, .string hb.api, .string hb.name, .slice vq hb.n cq, .string hb.pgv, .string hb.pv] 38) none)).at
              have lt2 : z1.heap.size < z2.heap.size := by have := q2.size; simp at this; omega
              obtain ⟨b0, b1, b2, b3, b4, b5⟩ := six_cells (boxOld D1 q2)
              clear J1 D1 V1 I1 q2 hvq D2 E2
              go_wp2_with fail
              refine (sameAns3 hb ohb vp vq cp cq _ V2 U2 hnn).mono ?_
              rintro e z3 ⟨rfl, q3⟩
              go_wp2
              go_ret
              exact ⟨rfl, gb_trans hB (gb_trans J2 q3)⟩
            | false =>
              obtain ⟨hg1, hg2⟩ := ans_uniq hax (ans_ins_here hm hinK)
              subst hg1 hg2
              have B3' : X3.drew.heap[GB]? = some (.cells #[.string ⟨#[65, 80, 73, 71, 114, 111, 117, 112]⟩, .string ⟨#[118, 49]⟩, .string g0.name, .slice vox g0.n vcx, .string g0.pgv, .string g0.pv] 38 (0, 0)) := B3
              obtain ⟨b0, b1, b2, b3, b4, b5⟩ := six_cells B3
              simp only [stamp, kindB, apiB] at b0 b1 b2 b3 b4 b5 V3
              have hvg0 := hg0.grown (gb_trans hB J3)
              have hvg : VAt X3.drew vo0 g0.n g0.gv g0.ver := hvg0
              have V3' : VNew X3.drew vox g0.n g0.gv g0.ver := V3
              have BX : Hid (X3.drew.heap[GB]? = some (.cells #[.string ⟨#[65, 80, 73, 71, 114, 111, 117, 112]⟩, .string ⟨#[118, 49]⟩, .string g0.name, .slice vox g0.n vcx, .string g0.pgv, .string g0.pv] 38 (0, 0))) := B3'
              clear hinK B3 B3' V3 hvg0
              go_wp2_with fail
              go_region_with (first | (go_at_call 16; refine (stamped_any g0 vo0 vc0 _ hvg hgn).mono ?_; rintro e y3 ⟨vs, cs, rfl, hvs, hgs3⟩; obtain ⟨c0, c1, c2, c3, c4, c5⟩ := six_cells (boxOld BX.out hgs3); have V3y := (V3'.grown hgs3).at; have hvsy := hvs.at) | (go_at_call 15; refine (eqStamp g0 vox vs vcx cs _ V3y hvsy hgn).mono ?_; rintro e y4 ⟨rfl, hg43⟩))
              all_goals
                have J : wB.grownBy y4 none := gb_trans (gb_trans (gb_trans J3 (gb_drewN X3 1 none)) hgs3) hg43
                have I : IdxAt y4 XX (n + 1) (ins m gs g0) := (I3.grown (gb_trans (gb_trans (gb_drewN X3 1 none) hgs3) hg43))
                have A : IdxAt y4 XA n gs := (A3.grown (gb_trans (gb_trans (gb_drewN X3 1 none) hgs3) hg43))
                clear J3 I3 A3 hgs3 hg43 V3y hvsy hvs c0 c1 c2 c3 c4 c5 b0 b1 b2 b3 b4 b5 a0 a1 a2 a3 a4 a5 hvg V3'
                obtain ⟨a0, a1, a2, a3, a4, a5⟩ := six_cells (boxAt hA J)
                by_cases hne : name = g0.name
                · have hne1 := str_eq g0.name
                  subst hne
                  go_wp2
                  go_ret
                  exact ⟨rfl, gb_trans hB J⟩
                have hne1 := str_ne hne
                have hne2 : g0.name ≠ name := fun e => hne e.symm
                clear hne
                go_wp2_with fail
                refine (idxGroup XA n gs name _ A (by omega)).mono ?_
                rintro e z1 ⟨ha, oha, vp, cp, rfl, han, hvp, q1⟩
                have J1 := gb_trans (gb_trans J q1) (gb_alloc z1 (.cells #[.string ha.kind, .string ha.api, .string ha.name, .slice vp ha.n cp, .string ha.pgv, .string ha.pv] 38) none)
                have D1 := heap_alloc_new z1 (.cells #[.string ha.kind, .string ha.api, .string ha.name, .slice vp ha.n cp, .string ha.pgv, .string ha.pv] 38)
                have V1 := hvp.grown (gb_alloc z1 (.cells #[.string ha.kind, .string ha.api, .string ha.name, .slice vp ha.n cp, .string ha.pgv, .string ha.pv] 38) none)
                have I1 := (I.grown q1).grown (gb_alloc z1 (.cells #[.string ha.kind, .string ha.api, .string ha.name, .slice vp ha.n cp, .string ha.pgv, .string ha.pv] 38) none)
                clear a0 a1 a2 a3 a4 a5 J I A q1 hvp
                go_wp2_with fail
                refine (idxGroup XX (n + 1) (ins m gs g0) name _ I1 (by omega)).mono ?_
                rintro e z2 ⟨hb, ohb, vq, cq, rfl, hbn, hvq, q2⟩
                obtain ⟨hh1, hh2⟩ := ans_uniq hbn (ans_ins_other hm hne2 han)
                subst hh1 hh2
                have hnn := ans_n han HGS.out
                have J2 := gb_trans (gb_trans J1 q2) (gb_alloc z2 (.cells #[.string hb.kind, .string hb.api, .string hb.name, .slice vq hb.n cq, .string hb.pgv, .string hb.pv] 38) none)
                have D2 := ((gb_trans q2 (gb_alloc z2 (.cells #[.string hb.kind, .string hb.api, .string hb.name, .slice vq hb.n cq, .string hb.pgv, .string hb.pv] 38) none)).block _ (lt_of_block D1) (by simp)).trans D1
                have E2 := heap_alloc_new z2 (.cells #[.string hb.kind, .string hb.api, .string hb.name, .slice vq hb.n cq, .string hb.pgv, .string hb.pv] 38)
                have V2 := ((V1.grown q2).grown (gb_alloc z2 (.cells #[.string hb.kind, .string hb.api, .string hb.name, .slice vq hb.n cq, .string hb.pgv, .string hb.pv] 38) none)).at
                have U2 := (hvq.grown (gb_alloc z2 (.cells #[.string hb.kind, .string hb.api, .string hb.name, .slice vq hb.n cq, .string hb.pgv, .string hb.pv] 38) none)).at
                have lt2 : z1.heap.size < z2.heap.size := by have := q2.size; simp at this; omega
                obtain ⟨b0, b1, b2, b3, b4, b5⟩ := six_cells (boxOld D1 q2)
                clear J1 D1 V1 I1 q2 hvq D2 E2
                go_wp2_with fail
                refine (sameAns3 hb ohb vp vq cp cq _ V2 U2 hnn).mono ?_
                rintro e z3 ⟨rfl, q3⟩
                go_wp2
                go_ret
                exact ⟨rfl, gb_trans hB (gb_trans J2 q3)⟩
end Go.Proofs.Qxb6626915a
