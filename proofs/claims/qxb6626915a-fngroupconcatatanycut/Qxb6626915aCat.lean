import Derived.Test.Qxb6626915aAb
import Derived.Test.Qxb6626915aZz
namespace Go.Proofs.Qxb6626915a
open Go.RowKit

theorem sameAns (g : GD) (ok : Bool) (vo vo' : Option Addr) (vc vc' : Nat) (w : World) (h1 : VAt w vo g.n g.gv g.ver) (h2 : VAt w vo' g.n g.gv g.ver) (hl : g.n ≤ 1048576) :
    Calls Try.prog 14 #[.agg #[.string g.kind, .string g.api, .string g.name, .slice vo g.n vc, .string g.pgv, .string g.pv], .bool ok, .agg #[.string g.kind, .string g.api, .string g.name, .slice vo' g.n vc', .string g.pgv, .string g.pv], .bool ok] w fun e w' => e = .returned (.bool true) ∧ w.grownBy w' none :=
  sameAnswer_same g ok vo vo' vc vc' w h1 h2 hl

/-- eqGroup of an empty group and Group{}. -/
theorem eqG0 (vo : Option Addr) (vc : Nat) (w : World) :
    Calls Try.prog 15 #[.agg #[.string ⟨#[]⟩, .string ⟨#[]⟩, .string ⟨#[]⟩, .slice vo 0 vc, .string ⟨#[]⟩, .string ⟨#[]⟩], .agg #[.string ⟨#[]⟩, .string ⟨#[]⟩, .string ⟨#[]⟩, .slice none 0 0, .string ⟨#[]⟩, .string ⟨#[]⟩]] w fun e w' => e = .returned (.bool true) ∧ w.grownBy w' none :=
  eqGroup_same zeroG vo none vc 0 w (.inl rfl) (.inl rfl) (by decide)

/-- The groups of two lists, one behind the other. -/
def cat (n : Nat) (gs hs : Nat → GD) (i : Nat) : GD := if i < n then gs i else hs (i - n)

theorem cat_left {n i : Nat} (gs hs : Nat → GD) (h : i < n) : cat n gs hs i = gs i := if_pos h
theorem cat_right {n i : Nat} (gs hs : Nat → GD) : cat n gs hs (n + i) = hs i := by
  unfold cat
  rw [if_neg (by omega), show n + i - n = i from by omega]

theorem ans_cat_left {gs hs : Nat → GD} {n n' : Nat} {name : ByteArray} {g : GD} (h : AnsIs gs n name g true) : AnsIs (cat n gs hs) (n + n') name g true := by
  rcases h with ⟨k, hk, he, hm, _, rfl⟩ | ⟨_, h, _⟩
  · exact .inl ⟨k, by omega, by rw [cat_left gs hs hk]; exact he, fun i hi => by rw [cat_left gs hs (by omega)]; exact hm i hi, rfl, by rw [cat_left gs hs hk]⟩
  · cases h

theorem ans_cat_right {gs hs : Nat → GD} {n n' : Nat} {name : ByteArray} {g g0 : GD} {ok : Bool} (h0 : AnsIs gs n name g0 false) (h : AnsIs hs n' name g ok) : AnsIs (cat n gs hs) (n + n') name g ok := by
  have hno : ∀ i, i < n → (gs i).name ≠ name := by
    rcases h0 with ⟨_, _, _, _, h, _⟩ | ⟨h, _, _⟩
    · cases h
    · exact h
  rcases h with ⟨k, hk, he, hm, rfl, rfl⟩ | ⟨hm, rfl, rfl⟩
  · refine .inl ⟨n + k, by omega, by rw [cat_right]; exact he, fun i hi => ?_, rfl, by rw [cat_right]⟩
    by_cases hin : i < n
    · rw [cat_left gs hs hin]; exact hno i hin
    · obtain ⟨j, rfl⟩ : ∃ j, i = n + j := ⟨i - n, by omega⟩
      rw [cat_right]; exact hm j (by omega)
  · refine .inr ⟨fun i hi => ?_, rfl, rfl⟩
    by_cases hin : i < n
    · rw [cat_left gs hs hin]; exact hno i hin
    · obtain ⟨j, rfl⟩ : ∃ j, i = n + j := ⟨i - n, by omega⟩
      rw [cat_right]; exact hm j (by omega)

set_option maxHeartbeats 4000000 in
set_option maxRecDepth 100000 in
theorem concat_walk (ao bo : Option Addr) (n n' cap cap' : Nat) (gs hs : Nat → GD) (name : ByteArray) (w0 : World) (hv : GsAt w0 ao n gs) (hv' : GsAt w0 bo n' hs) :
    Calls Try.prog 4 #[.slice ao n cap, .slice bo n' cap', .string name] w0 fun e w' => e = .returned (.bool true) ∧ w0.grownBy w' none := by
  go_enter Try.func4, Try.ntmps4
  go_wp2_with fail
  refine (zzBytes17 ao bo n n' cap cap' gs hs name _ hv hv').mono ?_
  rintro e w ⟨⟨b, rfl, hb⟩, hw⟩
  subst hw
  cases b with
  | false =>
    clear hb
    go_wp2
    go_ret
    exact ⟨rfl, gb_refl _ _⟩
  | true =>
    obtain ⟨hgs, hhs⟩ := hb rfl
    clear hb
    have HGS : Hid (∀ i, i < n → (gs i).n ≤ 1048576) := hgs
    have HHS : Hid (∀ i, i < n' → (hs i).n ≤ 1048576) := hhs
    clear hgs hhs
    by_cases h1 : 65536 < (n : Int)
    · go_wp2
      go_ret
      exact ⟨rfl, gb_refl _ _⟩
    have d1 : decide (65536 < (n : Int)) = false := decide_eq_false h1
    by_cases h2 : 65536 < (n' : Int)
    · go_wp2
      go_ret
      exact ⟨rfl, gb_refl _ _⟩
    have d2 : decide (65536 < (n' : Int)) = false := decide_eq_false h2
    go_wp2_with fail
    refine (addLen_any _ _ _).mono ?_
    rintro e w1 ⟨⟨t1, rfl⟩, hw⟩
    subst hw
    go_wp2_with fail
    refine (sizeOfGroups_any t1 ao n cap gs _ hv (by omega) HGS.out).mono ?_
    rintro e w2 ⟨⟨t2, rfl⟩, hg2⟩
    go_wp2_with fail
    refine (sizeOfGroups_any t2 bo n' cap' hs _ (hv'.grown hg2) (by omega) HHS.out).mono ?_
    rintro e w3 ⟨⟨t3, rfl⟩, hg3⟩
    have G3 := gb_trans hg2 hg3
    clear hg2 hg3
    by_cases h3 : 1048576 < t3
    · go_wp2
      go_ret
      exact ⟨rfl, G3⟩
    have d3 : decide (1048576 < t3) = false := decide_eq_false h3
    obtain ⟨w4, hmk, hab0, hg4⟩ := make_ab ((n : Int) + (n' : Int)) (n + n') (by omega) (by omega) w3 (cat n gs hs)
    have G4 := gb_trans G3 hg4
    have hsz4 := hg4.size
    have hszw := G3.size
    clear hg4
    go_wp2_with fail
    clear hmk
    go_loopw [8, 9] (fun v i wr => ∃ k : Nat, k ≤ n ∧ i = .int .i64 k ∧ AbIs wr w3.heap.size v k (cat n gs hs) ∧ World.grownBy w1 wr none ∧ w3.heap.size ≤ wr.heap.size) (fun _ i _ => n - (intOf i).toNat)
    case atStart => exact ⟨0, Nat.zero_le _, rfl, hab0, G4, hsz4⟩
    case round =>
      clear hab0 G4 hsz4
      obtain ⟨k, hk, rfl, hab, hg, hsz⟩ := hrel
      by_cases hlt : k < n
      · rcases hv.grown hg with h | ⟨b, o, hao, hcell⟩
        · omega
        subst hao
        have hcat : cat n gs hs k = gs k := cat_left gs hs hlt
        have hs6 := hcell k hlt
        have hnk := HGS.out k hlt
        obtain ⟨g, hgk⟩ : ∃ g, gs k = g := ⟨_, rfl⟩
        rw [hgk] at hs6 hnk hcat
        obtain ⟨c0, c1, c2, ⟨vo, vc, c3, hvat⟩, c4, c5⟩ := hs6
        have HC : Hid (cat n gs hs (k) = g) := hcat
        clear hcell hgk hcat
        go_wp2_with fail
        refine (toGroup_any g vo vc _ hvat hnk).mono ?_
        rintro e w5 ⟨ao', cap5, rfl, hvn, hg5⟩
        obtain ⟨v', w6, hap, hab6, hsz6, hfr⟩ := AbIs.append (hab.grown hg5) (Nat.le_trans hsz hg5.size) (by omega) (ao := ao') (cap := cap5) (by rw [HC.out]; exact hvn)
        rw [HC.out] at hap
        have HAP : Hid (∀ ty, _) := hap
        have G6 := hfr w1 hszw (gb_trans hg hg5)
        have hs56 := hg5.size
        clear c0 c1 c2 c3 c4 c5 hvat hap hfr
        go_wp2_with (at_builtin; refine wpList_ab rfl _ _ rfl _ _ v' w6 rfl rfl HAP.out ?_)
        go_roundw
        case rel => exact ⟨k + 1, by omega, by go_num, hab6, G6, by omega⟩
        case measure => simp [intOf]; omega
      · have hkn : k = n := by omega
        subst hkn
        go_wp2_with fail
        go_loopw [8, 10] (fun v i wr => ∃ j : Nat, j ≤ n' ∧ i = .int .i64 j ∧ AbIs wr w3.heap.size v (k + j) (cat k gs hs) ∧ World.grownBy w1 wr none ∧ w3.heap.size ≤ wr.heap.size) (fun _ i _ => n' - (intOf i).toNat)
        case atStart => exact ⟨0, Nat.zero_le _, rfl, hab, hg, hsz⟩
        case round =>
          clear hab hg hsz
          obtain ⟨n, hnk⟩ : ∃ n, n = k := ⟨_, rfl⟩
          subst hnk
          obtain ⟨k, hk', rfl, hab, hg, hsz⟩ := hrel
          by_cases hlt : k < n'
          · rcases hv'.grown hg with h | ⟨b, o, hao, hcell⟩
            · omega
            subst hao
            have hcat : cat n gs hs (n + k) = hs k := cat_right gs hs
            have hs6 := hcell k hlt
            have hnk := HHS.out k hlt
            obtain ⟨g, hgk⟩ : ∃ g, hs k = g := ⟨_, rfl⟩
            rw [hgk] at hs6 hnk hcat
            obtain ⟨c0, c1, c2, ⟨vo, vc, c3, hvat⟩, c4, c5⟩ := hs6
            have HC : Hid (cat n gs hs ((n + k)) = g) := hcat
            clear hcell hgk hcat
            go_wp2_with fail
            refine (toGroup_any g vo vc _ hvat hnk).mono ?_
            rintro e w5 ⟨ao', cap5, rfl, hvn, hg5⟩
            obtain ⟨v', w6, hap, hab6, hsz6, hfr⟩ := AbIs.append (hab.grown hg5) (Nat.le_trans hsz hg5.size) (by omega) (ao := ao') (cap := cap5) (by rw [HC.out]; exact hvn)
            rw [HC.out] at hap
            have HAP : Hid (∀ ty, _) := hap
            have G6 := hfr w1 hszw (gb_trans hg hg5)
            have hs56 := hg5.size
            clear c0 c1 c2 c3 c4 c5 hvat hap hfr
            go_wp2_with (at_builtin; refine wpList_ab rfl _ _ rfl _ _ v' w6 rfl rfl HAP.out ?_)
            go_roundw
            case rel => exact ⟨k + 1, by omega, by go_num, hab6, G6, by omega⟩
            case measure => simp [intOf]; omega
          · have hkn : k = n' := by omega
            subst hkn
            have hrab := hab.rownew
            have hgw := hg
            clear hab hsz
            go_wp2_with fail
            refine (toGroups_any ao n cap gs _ (hv.grown hgw) (by omega) HGS.out).mono ?_
            rintro e x1 ⟨va, rfl, hra, k1⟩
            go_wp2_with fail
            refine (newIdx va n gs _ hra).mono ?_
            rintro e x2 ⟨rfl, hia, k2⟩
            have J2 := gb_trans (gb_trans hgw k1) k2
            have hrab2 := (hrab.grown k1).grown k2
            obtain ⟨XA, hXA⟩ : ∃ X, x1.heap.size = X := ⟨_, rfl⟩
            rw [hXA] at hia ⊢
            clear hra hrab k1 k2 hgw hg hXA
            go_wp2_with fail
            refine (toGroups_any bo k cap' hs _ (hv'.grown J2) (by omega) HHS.out).mono ?_
            rintro e x3 ⟨vb, rfl, hrb, k3⟩
            go_wp2_with fail
            refine (newIdx vb k hs _ hrb).mono ?_
            rintro e x4 ⟨rfl, hib, k4⟩
            have J4 := gb_trans (gb_trans J2 k3) k4
            have hrab4 := (hrab2.grown k3).grown k4
            have hia4 := (hia.grown k3).grown k4
            obtain ⟨XB, hXB⟩ : ∃ X, x3.heap.size = X := ⟨_, rfl⟩
            rw [hXB] at hib ⊢
            clear hrb k3 k4 J2 hrab2 hia hXB
            go_wp2_with fail
            refine (newIdx _ (n + k) (cat n gs hs) _ hrab4).mono ?_
            rintro e x5 ⟨rfl, hix, k5⟩
            have J5 := gb_trans J4 k5
            have hia5 := hia4.grown k5
            have hib5 := hib.grown k5
            obtain ⟨XX, hXX⟩ : ∃ X, x4.heap.size = X := ⟨_, rfl⟩
            rw [hXX] at hix ⊢
            clear hrab4 J4 hia4 hib k5 hXX
            go_wp2_with fail
            refine (idxGroup XX (n + k) (cat n gs hs) name _ hix (by omega)).mono ?_
            rintro e x6 ⟨gx, okx, vox, vcx, rfl, hax, hvx, k6⟩
            have J6 := gb_trans (gb_trans J5 k6) (gb_alloc x6 (.cells #[.string gx.kind, .string gx.api, .string gx.name, .slice vox gx.n vcx, .string gx.pgv, .string gx.pv] 38) none)
            have B6 := heap_alloc_new x6 (.cells #[.string gx.kind, .string gx.api, .string gx.name, .slice vox gx.n vcx, .string gx.pgv, .string gx.pv] 38)
            have V6 := hvx.grown (gb_alloc x6 (.cells #[.string gx.kind, .string gx.api, .string gx.name, .slice vox gx.n vcx, .string gx.pgv, .string gx.pv] 38) none)
            have A6 := (hia5.grown k6).grown (gb_alloc x6 (.cells #[.string gx.kind, .string gx.api, .string gx.name, .slice vox gx.n vcx, .string gx.pgv, .string gx.pv] 38) none)
            have C6 := (hib5.grown k6).grown (gb_alloc x6 (.cells #[.string gx.kind, .string gx.api, .string gx.name, .slice vox gx.n vcx, .string gx.pgv, .string gx.pv] 38) none)
            clear hix J5 hia5 hib5 k6 hvx
            go_wp2_with fail
            refine (idxGroup XA n gs name _ A6 (by omega)).mono ?_
            rintro e x7 ⟨ga, oka, voa, vca, rfl, haa, hva, k7⟩
            have J7 := gb_trans (gb_trans J6 k7) (gb_alloc x7 (.cells #[.string ga.kind, .string ga.api, .string ga.name, .slice voa ga.n vca, .string ga.pgv, .string ga.pv] 38) none)
            have B7 := ((gb_trans k7 (gb_alloc x7 (.cells #[.string ga.kind, .string ga.api, .string ga.name, .slice voa ga.n vca, .string ga.pgv, .string ga.pv] 38) none)).block _ (lt_of_block B6) (by simp)).trans B6
            have D7 := heap_alloc_new x7 (.cells #[.string ga.kind, .string ga.api, .string ga.name, .slice voa ga.n vca, .string ga.pgv, .string ga.pv] 38)
            have V7 := (V6.grown k7).grown (gb_alloc x7 (.cells #[.string ga.kind, .string ga.api, .string ga.name, .slice voa ga.n vca, .string ga.pgv, .string ga.pv] 38) none)
            have U7 := hva.grown (gb_alloc x7 (.cells #[.string ga.kind, .string ga.api, .string ga.name, .slice voa ga.n vca, .string ga.pgv, .string ga.pv] 38) none)
            have C7 := (C6.grown k7).grown (gb_alloc x7 (.cells #[.string ga.kind, .string ga.api, .string ga.name, .slice voa ga.n vca, .string ga.pgv, .string ga.pv] 38) none)
            have lt7 : x6.heap.size < x7.heap.size := by have := k7.size; simp at this; omega
            clear J6 B6 V6 A6 C6 k7 hva
            go_wp2_with fail
            refine (idxGroup XB k hs name _ C7 (by omega)).mono ?_
            rintro e x8 ⟨gb, okb, vob, vcb, rfl, hab, hvb, k8⟩
            have J8 := gb_trans (gb_trans J7 k8) (gb_alloc x8 (.cells #[.string gb.kind, .string gb.api, .string gb.name, .slice vob gb.n vcb, .string gb.pgv, .string gb.pv] 38) none)
            have B8 := ((gb_trans k8 (gb_alloc x8 (.cells #[.string gb.kind, .string gb.api, .string gb.name, .slice vob gb.n vcb, .string gb.pgv, .string gb.pv] 38) none)).block _ (lt_of_block B7) (by simp)).trans B7
            have D8 := ((gb_trans k8 (gb_alloc x8 (.cells #[.string gb.kind, .string gb.api, .string gb.name, .slice vob gb.n vcb, .string gb.pgv, .string gb.pv] 38) none)).block _ (lt_of_block D7) (by simp)).trans D7
            have E8 := heap_alloc_new x8 (.cells #[.string gb.kind, .string gb.api, .string gb.name, .slice vob gb.n vcb, .string gb.pgv, .string gb.pv] 38)
            have V8 := ((V7.grown k8).grown (gb_alloc x8 (.cells #[.string gb.kind, .string gb.api, .string gb.name, .slice vob gb.n vcb, .string gb.pgv, .string gb.pv] 38) none)).at
            have U8 := ((U7.grown k8).grown (gb_alloc x8 (.cells #[.string gb.kind, .string gb.api, .string gb.name, .slice vob gb.n vcb, .string gb.pgv, .string gb.pv] 38) none)).at
            have T8 := (hvb.grown (gb_alloc x8 (.cells #[.string gb.kind, .string gb.api, .string gb.name, .slice vob gb.n vcb, .string gb.pgv, .string gb.pv] 38) none)).at
            have lt8 : x7.heap.size < x8.heap.size := by have := k8.size; simp at this; omega
            clear J7 B7 D7 V7 U7 C7 k8 hvb
            go_wp2_with fail
            refine (nameIn_any ao n cap gs n name _ (hv.grown J8) (Nat.le_refl _) (by omega)).mono ?_
            rintro e x9 ⟨⟨inA, rfl, hinA⟩, hw⟩
            subst hw
            go_wp2_with fail
            refine (nameIn_any bo k cap' hs k name _ (hv'.grown J8) (Nat.le_refl _) (by omega)).mono ?_
            rintro e x10 ⟨⟨inB, rfl, hinB⟩, hw⟩
            rw [hw]
            clear hw x10
            obtain rfl := ans_in haa hinA
            obtain rfl := ans_in hab hinB
            obtain ⟨W, hW⟩ : ∃ W, W = x8.alloc (.cells #[.string gb.kind, .string gb.api, .string gb.name, .slice vob gb.n vcb, .string gb.pgv, .string gb.pv] 38) := ⟨_, rfl⟩
            rw [← hW] at J8 B8 D8 E8 V8 U8 T8 ⊢
            clear hW
            obtain ⟨b0, b1, b2, b3, b4, b5⟩ := six_cells B8
            obtain ⟨e0, e1, e2, e3, e4, e5⟩ := six_cells D8
            obtain ⟨f0, f1, f2, f3, f4, f5⟩ := six_cells E8
            have hna := ans_n haa HGS.out
            have hnb := ans_n hab HHS.out
            clear hinA hinB
            cases oka with
            | true =>
              obtain ⟨hgx, hokx⟩ := ans_uniq hax (ans_cat_left haa)
              subst hgx hokx
              cases okb with
              | true =>
                go_wp2_with fail
                refine (sameAns gx true voa vox vca vcx _ U8 V8 hna).mono ?_
                rintro e y1 ⟨rfl, m1⟩
                have J9 := gb_trans J8 m1
                have B9 := (m1.block _ (lt_of_block B8) (by simp)).trans B8
                obtain ⟨p0, p1, p2, _, _, _⟩ := six_cells B9
                obtain ⟨hk1, hk2, hk3⟩ := ans_some hax
                unfold kindB at hk1
                unfold apiB at hk2
                rw [hk1] at p0
                rw [hk2] at p1
                rw [hk3] at p2
                clear hk1 hk2 hk3 B8 D8 E8 V8 U8 T8 B9 b0 b1 b2 b3 b4 b5 e0 e1 e2 e3 e4 e5 f0 f1 f2 f3 f4 f5
                go_wp2
                go_ret
                exact ⟨rfl, J9⟩
              | false =>
                go_wp2_with fail
                refine (sameAns gx true voa vox vca vcx _ U8 V8 hna).mono ?_
                rintro e y1 ⟨rfl, m1⟩
                have J9 := gb_trans J8 m1
                have B9 := (m1.block _ (lt_of_block B8) (by simp)).trans B8
                obtain ⟨p0, p1, p2, _, _, _⟩ := six_cells B9
                obtain ⟨hk1, hk2, hk3⟩ := ans_some hax
                unfold kindB at hk1
                unfold apiB at hk2
                rw [hk1] at p0
                rw [hk2] at p1
                rw [hk3] at p2
                clear hk1 hk2 hk3 B8 D8 E8 V8 U8 T8 B9 b0 b1 b2 b3 b4 b5 e0 e1 e2 e3 e4 e5 f0 f1 f2 f3 f4 f5
                go_wp2
                go_ret
                exact ⟨rfl, J9⟩
            | false =>
              obtain ⟨hgx, hokx⟩ := ans_uniq hax (ans_cat_right haa hab)
              subst hgx hokx
              cases okx with
              | true =>
                go_wp2_with fail
                refine (sameAns gx true vob vox vcb vcx _ T8 V8 hnb).mono ?_
                rintro e y1 ⟨rfl, m1⟩
                have J9 := gb_trans J8 m1
                have B9 := (m1.block _ (lt_of_block B8) (by simp)).trans B8
                obtain ⟨p0, p1, p2, _, _, _⟩ := six_cells B9
                obtain ⟨hk1, hk2, hk3⟩ := ans_some hax
                unfold kindB at hk1
                unfold apiB at hk2
                rw [hk1] at p0
                rw [hk2] at p1
                rw [hk3] at p2
                clear hk1 hk2 hk3 B8 D8 E8 V8 U8 T8 B9 b0 b1 b2 b3 b4 b5 e0 e1 e2 e3 e4 e5 f0 f1 f2 f3 f4 f5
                go_wp2
                go_ret
                exact ⟨rfl, J9⟩
              | false =>
                go_wp2_with fail
                refine (sameAns gx false vob vox vcb vcx _ T8 V8 hnb).mono ?_
                rintro e y1 ⟨rfl, m1⟩
                have hz := ans_zero hax
                have J9 := gb_trans J8 m1
                have B9 := (m1.block _ (lt_of_block B8) (by simp)).trans B8
                have V9 := V8.grown m1
                rw [hz] at B9 V9
                obtain ⟨p0, p1, p2, p3, p4, p5⟩ := six_cells B9
                clear B8 D8 E8 V8 U8 T8 B9 b0 b1 b2 b3 b4 b5 e0 e1 e2 e3 e4 e5 f0 f1 f2 f3 f4 f5 hz
                simp only [zeroG] at p0 p1 p2 p3 p4 p5
                go_wp2_with fail
                refine (eqG0 vox vcx _).mono ?_
                rintro e y2 ⟨rfl, m2⟩
                go_wp2
                go_ret
                exact ⟨rfl, gb_trans J9 m2⟩
end Go.Proofs.Qxb6626915a
