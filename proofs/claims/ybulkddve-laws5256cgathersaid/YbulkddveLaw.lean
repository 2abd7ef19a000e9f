/-
  The walk of the law (function 3).
-/
import Derived.Test.YbulkddveGone
import Derived.RegionTactic
import Derived.BigRegion
import Derived.Outline
import Derived.Deep.DeepCutAuto
namespace Go.Proofs.Ybulkddve.Law
open Go.ChangeShapes Go.WideShapes Go.ChangeAt Go.RowKit Own Plain Parts Runs Gather
set_option maxRecDepth 100000

/-- 's[P:P+L]' as the walk writes it -/
theorem slice_own {wx : World} {N : Nat} {ag : Option Addr} {cg : Nat} {W : List Int} (hown : wx.ownsRow N 5 1 (.slice ag W.length cg) W.length (W.map (Value.int .u8))) (P L : Nat) (h2 : P + L ≤ W.length) :
    P + L ≤ cg ∧ Lies wx (.slice (if cg = P then ag else Option.map (fun x => x.add P) ag) L (cg - P)) ((W.drop P).take L) := by
  rcases own_shape hown with ⟨h1, h0, hx⟩ | ⟨g, c, h1, hc, hcm, hob, hg, hNg, hcells, hfz⟩
  · injection h1 with e1 e2 e3
    subst e1 e3
    have hP : P = 0 := by omega
    have hL : L = 0 := by omega
    subst hP hL
    exact ⟨by omega, .inl ⟨rfl, by simp⟩⟩
  · injection h1 with e1 e2 e3
    subst e1 e3
    refine ⟨by omega, .inr ?_⟩
    have hl : ((W.drop P).take L).length = L := by simp; omega
    rw [hl]
    by_cases hcp : cg = P
    · rw [if_pos hcp]
      refine ⟨g, 0, _, rfl, fun i hi => by omega⟩
    · rw [if_neg hcp]
      refine ⟨g, P, cg - P, by simp [Addr.add]; exact fun h => h.symm, fun i hi => ?_⟩
      apply hcells
      have : (P + i) < W.length := by omega
      simp [List.getD_eq_getElem?_getD, List.getElem?_drop, hi, this]
theorem take_flat {Rs : List (List Ent)} {a : Nat} {r : List Ent} (hr : Rs[a]? = some r) : (Rs.take (a + 1)).flatten.length = (Rs.take a).flatten.length + r.length := by
  rw [List.take_add_one, hr]
  simp

theorem Ga.len {w : World} {N S : Nat} {K : List Kd} {i : Nat} {vw vsh vcl : Value} {wx : World} {vrs vb vg : Value} {vs : List Value} {Rs : List (List Ent)} {B : List Int} {G : Nat} {W : List Int}
    (h : Ga w N S K i vw vsh vcl wx vrs vb vg vs Rs B G W) : (Rs.take Rs.length).flatten.length = i ∧ lenR (Rs.flatten.take (Rs.take Rs.length).flatten.length) = W.length := by
  have hl := h.pl.len
  have hw := h.pl.w
  have hg := getB_length _ h.pl.allIn
  rw [← hw] at hg
  rw [List.take_length, List.take_length]
  exact ⟨hl, hg.symm⟩

set_option maxHeartbeats 4000000 in
theorem walk_some (sa : Option Addr) (b off len cap : Nat) (w : World) (K : List Kd) (hsa : len ≠ 0 → sa = some ⟨b, off, none⟩) (hb : ¬ 1024 < len) (hK : K.length = len) (hAt : ∀ i d, K[i]? = some d → KeyAt w b off i d) :
    Calls Yba.prog 3 #[.slice sa len cap] w fun e w' => e = .returned (.bool true) ∧ Below w.heap.size w w' := by
  have hb' : ¬ (1024 : Int) < (len : Int) := by omega
  have HK := hide_of hK
  have HSA := hide_of hsa
  have HAT := hide_of hAt
  clear hAt hK hsa
  go_enter Yba.func3, Yba.ntmps3
  go_wp2_with fail
  go_loopw [28] (fun t wr => ∃ i : Nat, i ≤ len ∧ t = .int .i64 i ∧ Below w.heap.size w wr ∧ ∀ j d, j < i → K[j]? = some d → d.xs.length ≤ 1024) (fun t _ => len - (intOf t).toNat)
  case atStart => exact ⟨0, Nat.zero_le _, rfl, Below.refl _ _, fun j _ h => absurd h (by omega)⟩
  case round =>
    obtain ⟨i, hi, rfl, hbel, hsm⟩ := hrel
    have HBEL := hide_of hbel
    have HSM := hide_of hsm
    by_cases hlt : i < len
    · have hlt' : (i : Int) < (len : Int) := by omega
      obtain rfl := HSA.out (by omega)
      have hi2 : i < K.length := by rw [HK.out]; exact hlt
      obtain ⟨d, hd⟩ : ∃ d, K[i]? = some d := ⟨_, List.getElem?_eq_getElem hi2⟩
      have ka := keyAt_below (HAT.out i d hd) hbel
      obtain ⟨ka0, kc0, hkv⟩ := lies_shape ka.lies
      have c0 := ka.c0; have c1 := ka.c1; have c2 := ka.c2
      rw [hkv] at c0
      have HN := hide_of hkv
      have HD := hide_of hd
      have hN := hbel.size
      clear ka hbel hsm hkv hd
      by_cases h1 : 1024 < d.xs.length
      · have h1' : (1024 : Int) < (d.xs.length : Int) := by omega
        go_wp2_with fail
        go_ret
        exact ⟨rfl, HBEL.out.alloc hN _⟩
      · have h1' : ¬ (1024 : Int) < (d.xs.length : Int) := by omega
        go_wp2_with fail
        refine ⟨⟨i + 1, by omega, by simp, HBEL.out.alloc hN _, fun j e hj he => ?_⟩, ?_⟩
        · by_cases hji : j = i
          · subst hji
            have := HD.out.symm.trans he
            injection this with this
            subst this
            omega
          · exact HSM.out j e (by omega) he
        · simp only [intOf]; omega
    · have hlt' : ¬ (i : Int) < (len : Int) := by omega
      have hie : i = len := by omega
      have hsm2 : ∀ (j : Nat) (d : Kd), K[j]? = some d → d.xs.length ≤ 1024 := fun j d h => HSM.out j d (by have := (List.getElem?_eq_some_iff.1 h).1; rw [HK.out] at this; omega) h
      subst hie
      have HS1 := hide_of (st_start K hbel hbel.size)
      have HSM2 := hide_of hsm2
      obtain ⟨S, hS⟩ : ∃ S, wr.heap.size = S := ⟨_, rfl⟩
      obtain ⟨N, hN⟩ : ∃ N, w.heap.size = N := ⟨_, rfl⟩
      rw [hS, hN] at HS1
      have HHN := hide_of hN
      clear hbel hsm hsm2 HSM HBEL hN
      go_wp2_with fail
      clear hS
      go_loopw [6, 7, 8, 39] (fun vw vr vsh t wx => ∃ k : Nat, k ≤ i ∧ t = .int .i64 k ∧ ∃ vrs vb vs Rs r B G W, St w N S K k vw vr vsh wx vrs vb vs Rs r B G W) (fun _ _ _ t _ => i - (intOf t).toNat)
      case atStart => exact ⟨0, Nat.zero_le _, rfl, _, _, _, _, _, _, _, _, HS1.out⟩
      case round =>
        clear HS1
        obtain ⟨k, hk, rfl, vrs, vb, vs, Rs, r, B, G, W, hst⟩ := hrel
        by_cases hlt : k < i
        · have hlt' : (k : Int) < (i : Int) := by omega
          obtain rfl := HSA.out (by omega)
          have hi2 : k < K.length := by rw [HK.out]; exact hlt
          obtain ⟨d, hd⟩ : ∃ d, K[k]? = some d := ⟨_, List.getElem?_eq_getElem hi2⟩
          have HD := hide_of hd
          have hst' := hst.fr.below
          rw [← HHN.out] at hst'
          have ka := keyAt_below (HAT.out k d hd) hst'
          obtain ⟨ka0, kc0, hkv⟩ := lies_shape ka.lies
          have c0 := ka.c0; have c1 := ka.c1; have c2 := ka.c2
          have HB0 := hide_of (hst.fr.box d)
          rw [hkv] at c0 HB0
          have HKV := hide_of hkv
          have HST := hide_of hst
          have q0 := ka.q0; have q1 := ka.q1
          obtain ⟨p, hp⟩ : ∃ p : Nat, d.q % 4 = (p : Int) := ⟨(d.q % 4).toNat, by omega⟩
          have hp3 : p ≤ 3 := by omega
          have hBb : B.length ≤ 1051648 := by have := hst.pl.bound; omega
          obtain ⟨X, hX⟩ : ∃ X, wr.heap.size = X := ⟨_, rfl⟩
          rw [hX] at HB0
          clear ka hkv hd hst hst'
          go_wp2_with fail
          clear hp
          go_loopw [12] (fun t wx => ∃ j : Nat, j ≤ p ∧ t = .int .i64 j ∧ ∃ vb, Fr w N S vrs vb G (bR vb (B ++ List.replicate j 238) :: boxR X d :: restR u6 W u7 r u8 vrs vs Rs) wx) (fun t _ => p - (intOf t).toNat)
          case atStart => exact ⟨0, Nat.zero_le _, rfl, vb, by simpa using HB0.out⟩
          case round =>
            clear HB0
            obtain ⟨j, hj, rfl, vb1, hfr⟩ := hrel
            by_cases hjl : j < p
            · have hjl' : (j : Int) < (p : Int) := by omega
              have s0 := hfr.ks.c0; have s1 := hfr.ks.c1; have s2 := hfr.ks.c2; have sf := hfr.ks.fz
              obtain ⟨B1, hB1⟩ : ∃ B1, B ++ List.replicate j 238 = B1 := ⟨_, rfl⟩
              have hB1l : B1.length ≤ 1051651 := by rw [← hB1]; simp; omega
              rw [hB1] at hfr
              have HB1 := hide_of hB1
              have HFR := hide_of (fun o => hfr.alloc o)
              have HSR := hide_of (src_one wr (.int .u8 238) 5 rfl)
              obtain ⟨va, vc, hvb1⟩ := hfr.shape (List.mem_cons_self ..)
              have hvb2 : vb1 = .slice va B1.length vc := hvb1
              subst hvb2
              have hbd : B1.length + 1 ≤ 4194304 := by omega
              clear hvb1 hfr hB1
              go_wp2_with (at_builtin; refine app23 rfl _ _ rfl N S _ _ _ _ rfl (HFR.out _).rows _ _ _ rfl HSR.out hbd ?_; intro vb3 w3 hr3 hg3; obtain ⟨F3, va3, vc3, hvb3⟩ := Fr.appB (Y := [238]) (HFR.out (.cells #[.int .u8 238] 5)) rfl hr3 hg3; subst hvb3; have s0 := F3.ks.c0; have s1 := F3.ks.c1; have s2 := F3.ks.c2; have sf := F3.ks.fz; have HF3 := hide_of (F3.set1 (u := .slice va3 (B1.length + 1) vc3)); clear hr3 hg3 F3)
              go_roundw
              case rel =>
                refine ⟨j + 1, by omega, by simp, .slice va3 (B1.length + 1) vc3, ?_⟩
                have e : B ++ List.replicate (j + 1) 238 = B1 ++ [238] := by rw [← HB1.out, List.append_assoc, ← List.replicate_succ']
                rw [e]
                exact HF3.out
              case measure =>
                simp only [intOf]; omega
            · have hjl' : ¬ (j : Int) < (p : Int) := by omega
              have hje : j = p := by omega
              subst hje
              obtain ⟨B1, hB1⟩ : ∃ B1, B ++ List.replicate j 238 = B1 := ⟨_, rfl⟩
              have hB1l : B1.length ≤ 1051651 := by rw [← hB1]; simp; omega
              rw [hB1] at hfr
              have HB1 := hide_of hB1
              have s0 := hfr.ks.c0; have s1 := hfr.ks.c1; have s2 := hfr.ks.c2; have sf := hfr.ks.fz
              obtain ⟨x0, x1, x2, xS, xl⟩ := hfr.boxcells (X := X) (d := d) (by simp)
              rw [HKV.out] at x0
              obtain ⟨va, vc, hvb1⟩ := hfr.shape (List.mem_cons_self ..)
              have hvb2 : vb1 = .slice va B1.length vc := hvb1
              subst hvb2
              have HFA : Hid (Fr w N S vrs (.slice va B1.length vc) (G + j) (bR (.slice va B1.length vc) B1 :: boxR X d :: restR u6 W u7 r u8 vrs vs Rs) (wr.setCell ⟨S, 2, none⟩ (.int .i64 ((G : Int) + (j : Int))))) := by
                have := hfr.set2 (u := G + j)
                rw [Int.natCast_add] at this
                exact this
              have HSRC : Hid (∀ wx, Below N w wx → Src wx 1 (.slice ka0 d.xs.length kc0) d.xs.length (d.xs.map (Value.int .u8))) := fun wx hx => by
                have h1 := (HAT.out k d HD.out).lies
                rw [HKV.out] at h1
                rw [← HHN.out] at hx
                exact lies_src (lies_below h1 hx)
              have hxl := HSM2.out k d HD.out
              have hbA : B1.length + d.xs.length ≤ 4194304 := by omega
              have hr1 : r.length + 1 ≤ 4194304 := by
                have := HST.out.pl.len
                simp at this
                omega
              have hRs1 : Rs.length + 1 ≤ 4194304 := by
                have := HST.out.hk
                omega
              have hvs1 : vs.length + 1 ≤ 4194304 := by
                have := HST.out.hv
                omega
              have hWl : W.length + d.xs.length ≤ 4194304 := by
                have := HST.out.pl.bg
                omega
              have hG : (G : Int) ≤ 4194304 := by
                have := HST.out.pl.bg
                omega
              clear hvb1 hfr hB1
              go_wp2_with (first
                | (at_builtin; refine app23 rfl _ _ rfl N S _ _ _ _ rfl HFA.out.rows _ _ _ rfl (HSRC.out _ HFA.out.below) hbA ?_; intro vb3 w3 hr3 hg3; obtain ⟨F3, va3, vc3, hvb3⟩ := Fr.appB HFA.out rfl hr3 hg3; subst hvb3; have s0 := F3.ks.c0; have s1 := F3.ks.c1; have s2 := F3.ks.c2; have sf := F3.ks.fz; obtain ⟨x0, x1, x2, xS, xl⟩ := F3.boxcells (X := X) (d := d) (by simp); rw [HKV.out] at x0; have HF4 := hide_of (F3.set1 (u := .slice va3 (B1.length + d.xs.length) vc3)); have HFB := hide_of (((HF4.out.alloc (.cells #[.int .i64 (B1.length : Int), .int .i64 ((B1.length : Int) + (d.xs.length : Int)), .int .u32 0, .int .u16 0, .int .i64 ((k : Int) + 1)] 38))).perm (pm3 ..)); have HSB := hide_of (src_ent_set w3 ⟨S, 1, none⟩ (.slice va3 (B1.length + d.xs.length) vc3) B1.length d.xs.length k); clear hr3 hg3 F3 HFA)
                | (at_builtin; refine app29 rfl _ _ rfl N S _ _ _ _ rfl HFB.out.rows _ _ _ rfl HSB.out hr1 ?_; intro v5 w5 hr5 hg5; obtain ⟨F5, va5, vc5, hv5⟩ := Fr.appR HFB.out hr5 hg5; subst hv5; have s0 := F5.ks.c0; have s1 := F5.ks.c1; have s2 := F5.ks.c2; have sf := F5.ks.fz; obtain ⟨x0, x1, x2, xS, xl⟩ := F5.boxcells (X := X) (d := d) (by simp); rw [HKV.out] at x0; have HFC := hide_of (F5.perm (pm3 ..)); clear hr5 hg5 F5 HFB HSB)
                | (at_builtin; refine app23 rfl _ _ rfl N S _ _ _ _ rfl HFC.out.rows _ _ _ rfl (HSRC.out _ HFC.out.below) hWl ?_; intro v6 w6 hr6 hg6; obtain ⟨F6, va6, vc6, hv6⟩ := Fr.appB HFC.out rfl hr6 hg6; subst hv6; have s0 := F6.ks.c0; have s1 := F6.ks.c1; have s2 := F6.ks.c2; have sf := F6.ks.fz; obtain ⟨x0, x1, x2, xS, xl⟩ := F6.boxcells (X := X) (d := d) (by simp); have HF6 := hide_of F6; have HFD := hide_of ((F6.alloc (.cells #[.slice va5 (r.length + 1) vc5] 29)).perm (pm5 ..)); have HSD := hide_of (src_one w6 (.slice va5 (r.length + 1) vc5) 29 rfl); clear hr6 hg6 F6 HFC)
                | (at_builtin; refine app26 rfl _ _ rfl N S _ _ _ _ rfl HFD.out.rows _ _ _ rfl HSD.out hvs1 ?_; intro v7 w7 hr7 hg7; obtain ⟨F7, va7, vc7, hv7⟩ := Fr.appV HFD.out hr7 hg7; subst hv7; have s0 := F7.ks.c0; have s1 := F7.ks.c1; have s2 := F7.ks.c2; have sf := F7.ks.fz; have HF8 := hide_of (F7.set0 (u := .slice va7 (vs.length + 1) vc7)); have HFE := hide_of ((HF8.out.alloc (.cells #[.int .i64 ((r.length : Int) + 1)] 3)).perm (pm5 ..)); have HSE := hide_of (src_one_set w7 ⟨S, 0, none⟩ (.slice va7 (vs.length + 1) vc7) (.int .i64 ((r.length : Int) + 1)) 3 rfl); clear hr7 hg7 F7 HFD HSD)
                | (at_builtin; refine app30 rfl _ _ rfl N S _ _ _ _ rfl HFE.out.rows _ _ _ rfl HSE.out hRs1 ?_; intro v9 w9 hr9 hg9; obtain ⟨F9, va9, vc9, hv9⟩ := Fr.appS2 (x := (B1.length, B1.length + d.xs.length, k + 1)) HFE.out hr9 hg9; subst hv9; have HF9 := hide_of F9; clear hr9 hg9 F9 HFE HSE))
              all_goals obtain rfl := HB1.out
              · refine ⟨⟨k + 1, by omega, by simp, st_cut HST.out HD.out hxl hp3 HF9.out⟩, ?_⟩
                simp only [intOf]; omega
              · refine ⟨⟨k + 1, by omega, by simp, st_next HST.out HD.out hxl hp3 HF6.out⟩, ?_⟩
                simp only [intOf]; omega
        · have hlt' : ¬ (k : Int) < (i : Int) := by omega
          have hke : k = i := by omega
          subst hke
          have s0 := hst.fr.ks.c0; have s1 := hst.fr.ks.c1; have s2 := hst.fr.ks.c2; have sf := hst.fr.ks.fz
          obtain ⟨ar, cr, hvr⟩ := hst.fr.shape (r := runR u7 r) (by simp [restR])
          have hvr2 : u7 = .slice ar r.length cr := hvr
          have hrl : r.length ≤ 1024 := by
            have := hst.pl.len
            simp at this
            omega
          have hRs1 : Rs.length + 1 ≤ 4194304 := by
            have := hst.hk
            omega
          have hvs1 : vs.length + 1 ≤ 4194304 := by
            have := hst.hv
            omega
          clear hvr
          subst hvr2
          have HST := hide_of hst
          have HFD := hide_of ((hst.fr.alloc (.cells #[.slice ar r.length cr] 29)).perm (pm4 ..))
          have HSD := hide_of (src_one wr (.slice ar r.length cr) 29 rfl)
          clear hst
          go_upto_if 103 with fail
          go_cut [8] (fun vsh wx => ∃ vrs vb vs Rs B G W, Fn w N S K k u6 vsh wx vrs vb vs Rs B G W)
          case first =>
            by_cases hr0 : r.length = 0
            · have hr0' : ¬ (0 : Int) < (r.length : Int) := by omega
              have HR0 := hide_of hr0
              clear hr0
              go_wp2_with fail
              go_meet
              exact fn_none HST.out HR0.out
            · have hr0' : (0 : Int) < (r.length : Int) := by omega
              go_wp2_with (first
                | (at_builtin; refine app26 rfl _ _ rfl N S _ _ _ _ rfl HFD.out.rows _ _ _ rfl HSD.out hvs1 ?_; intro v7 w7 hr7 hg7; obtain ⟨F7, va7, vc7, hv7⟩ := Fr.appV HFD.out hr7 hg7; subst hv7; have s0 := F7.ks.c0; have s1 := F7.ks.c1; have s2 := F7.ks.c2; have sf := F7.ks.fz; have HF8 := hide_of (F7.set0 (u := .slice va7 (vs.length + 1) vc7)); have HFE := hide_of ((HF8.out.alloc (.cells #[.int .i64 (r.length : Int)] 3)).perm (pm4 ..)); have HSE := hide_of (src_one_set w7 ⟨S, 0, none⟩ (.slice va7 (vs.length + 1) vc7) (.int .i64 (r.length : Int)) 3 rfl); clear hr7 hg7 F7 HFD HSD)
                | (at_builtin; refine app30 rfl _ _ rfl N S _ _ _ _ rfl HFE.out.rows _ _ _ rfl HSE.out hRs1 ?_; intro v9 w9 hr9 hg9; obtain ⟨F9, va9, vc9, hv9⟩ := Fr.appS HFE.out hr9 hg9; subst hv9; have HF9 := hide_of F9; clear hr9 hg9 F9 HFE HSE))
              go_meet
              exact fn_app HST.out HF9.out
          case rest =>
            clear HFD HSD HST s0 s1 s2 sf
            obtain ⟨vrs, vb, vs, Rs, B, G, W, hfn⟩ := hcut
            have s0 := hfn.fr.ks.c0; have s1 := hfn.fr.ks.c1; have s2 := hfn.fr.ks.c2; have sf := hfn.fr.ks.fz
            have hBl : B.length ≤ 4194304 := by
              have := hfn.pl.bound
              omega
            have hcl := clone_own vb B wc (hfn.fr.lies (by simp)) hBl
            have HFN := hide_of hfn
            have HCL := hide_of hcl
            have hk1 : k ≤ 1024 := by omega
            clear hfn hcl
            go_wp2_with (first
              | (go_at_call 4; refine HCL.out.mono ?_; rintro e1 w1 ⟨vcl, rfl, ho1, hb1⟩; have HF1 := hide_of (HFN.out.clone ho1 hb1); have HGA := hide_of (HFN.out.gather hk1 HF1.out); clear ho1 hb1)
              | (go_at_call 5; refine HGA.out.mono ?_; rintro e2 w2 ⟨rfl, vg, hga⟩; have s0 := hga.fr.ks.c0; have s1 := hga.fr.ks.c1; have s2 := hga.fr.ks.c2; have sf := hga.fr.ks.fz; have HE1 := hide_of (equal_same vg u6 W w2 (hga.fr.lies (by simp)) (hga.fr.lies (by simp))); have HE2 := hide_of (equal_same vb vcl B w2 (hga.fr.lies (by simp)) (hga.fr.lies (by simp))); obtain ⟨⟨as0, cs0, hs0⟩, ⟨as8, cs8, hs8⟩, ag, cg, hsg⟩ := hga.shapes; subst hs0 hs8 hsg; have HG2 := hide_of hga; clear hga)
              | (go_at_call 6; refine HE1.out.mono ?_; rintro e3 w3 ⟨rfl, rfl⟩; clear HE1)
              | (go_at_call 6; refine HE2.out.mono ?_; rintro e3 w3 ⟨rfl, rfl⟩; clear HE2))
            have HAT2 : Hid (∀ wx, Below N w wx → ∀ (q : Nat) (d : Kd), K[q]? = some d → KeyAt wx b off q d) := fun wx hx q d hd => by
              rw [← HHN.out] at hx
              exact keyAt_below (HAT.out q d hd) hx
            have hRl : Rs.length ≤ 1025 := by
              have := HFN.out.hk
              omega
            have hWl : W.length ≤ 4194304 := by
              have := HFN.out.pl.bg
              omega
            have HEL : Hid (Rs.flatten.length = k) := HFN.out.pl.len
            clear HFN HCL HF1 HGA s0 s1 s2 sf
            go_loopw [16, 17, 141] (fun n q t wx => ∃ a : Nat, a ≤ Rs.length ∧ t = .int .i64 a ∧ n = .int .i64 ((Rs.take a).flatten.length : Int) ∧ q = .int .i64 (lenR (Rs.flatten.take (Rs.take a).flatten.length) : Int) ∧ Ga w N S K k u6 (.slice as8 Rs.length cs8) vcl wx (.slice as0 Rs.length cs0) vb (.slice ag W.length cg) vs Rs B G W) (fun _ _ t _ => Rs.length - (intOf t).toNat)
            case atStart => exact ⟨0, Nat.zero_le _, rfl, rfl, rfl, HG2.out⟩
            case round =>
              clear HG2
              obtain ⟨a, ha, rfl, h16, h17, hga⟩ := hrel
              by_cases hal : a < Rs.length
              · have hal' : (a : Int) < (Rs.length : Int) := by omega
                subst h16 h17
                obtain ⟨v, rr, g0, g8, hv, hr, rfl, rfl, hc0, hc8, av, cv, rfl⟩ := hga.run_at hal
                have HGA2 := hide_of hga
                clear hga
                have HV := hide_of hv
                have HR := hide_of hr
                clear hv hr
                have hrl : rr.length ≤ 1024 := by
                  have h2 : rr ∈ Rs := List.mem_of_getElem? HR.out
                  have h3 := (List.sublist_flatten_of_mem h2).length_le
                  have h4 := HEL.out
                  omega
                go_wp2_with fail
                go_loopw [16, 17, 155] (fun n16 n17 t wx => ∃ j n P : Nat, j ≤ rr.length ∧ n = (Rs.take a).flatten.length + j ∧ P = lenR (Rs.flatten.take n) ∧ t = .int .i64 j ∧ n16 = .int .i64 n ∧ n17 = .int .i64 P ∧ Ga w N S K k u6 (.slice (some ⟨g8, 0, none⟩) Rs.length cs8) vcl wx (.slice (some ⟨g0, 0, none⟩) Rs.length cs0) vb (.slice ag W.length cg) vs Rs B G W) (fun _ _ t _ => rr.length - (intOf t).toNat)
                case atStart => exact ⟨0, _, _, Nat.zero_le _, rfl, rfl, rfl, rfl, rfl, HGA2.out⟩
                case round =>
                  clear HGA2 hc0 hc8
                  obtain ⟨j, n, P, hj, hn, hP, rfl, rfl, rfl, hga⟩ := hrel
                  by_cases hjl : j < rr.length
                  · have hjl' : (j : Int) < (rr.length : Int) := by omega
                    obtain rfl := HSA.out (by have := HEL.out; have h2 : rr ∈ Rs := List.mem_of_getElem? HR.out; have h3 := (List.sublist_flatten_of_mem h2).length_le; omega)
                    obtain ⟨g, c, d, hv5, hd, hnk, hnext, hPW, hcut, x0, x1, x2, x3, x4⟩ := hga.ent_at HV.out HR.out hjl hn hP
                    injection hv5 with e1 _ e2
                    subst e1 e2
                    have HN := hide_of hn
                    have HP := hide_of hP
                    have HNX := hide_of hnext
                    have HG3 := hide_of (fun o => hga.alloc o)
                    have hka := fun o => HAT2.out _ (hga.alloc o).fr.below n d hd
                    obtain ⟨ka0, kc0, hkv⟩ := lies_shape (hka (.cells #[] 5)).lies
                    have kc := fun o => (hka o).c0
                    have kl := fun o => (hka o).lies
                    rw [hkv] at kl kc
                    have s1 := fun o => (hga.alloc o).fr.ks.c1
                    obtain ⟨hcg, hlu⟩ := slice_own ((hga.alloc (entO (P, P + d.xs.length, n + 1))).fr.rows.own (bR (.slice ag W.length cg) W) (by simp)) P d.xs.length hPW
                    rw [hcut] at hlu
                    have HEQ := hide_of (equal_sameW _ _ d.xs _ hlu (kl (entO (P, P + d.xs.length, n + 1))))
                    rw [ent_obj] at HEQ
                    have hPW' : (P : Int) + (d.xs.length : Int) ≤ (W.length : Int) := by omega
                    have hnk' : (n : Int) < (k : Int) := by omega
                    have hcb : decide ((W.length : Int) < (P : Int) + (d.xs.length : Int)) = false := decide_eq_false (by omega)
                    have hcg' : (P : Int) + (d.xs.length : Int) ≤ (cg : Int) := by omega
                    clear hga hn hP hnext hlu hcut hka hkv kl hd
                    go_wp2_with (go_at_call 6; refine HEQ.out.mono ?_; rintro e3 w3 ⟨rfl, rfl⟩; clear HEQ)
                    refine ⟨⟨j + 1, n + 1, P + d.xs.length, by omega, by have := HN.out; omega, HNX.out.symm, by simp, by simp, by simp, HG3.out _⟩, ?_⟩
                    simp only [intOf]; omega
                  · have hjl' : ¬ (j : Int) < (rr.length : Int) := by omega
                    have hje : j = rr.length := by omega
                    have HE : Hid (n = (Rs.take (a + 1)).flatten.length) := by rw [take_flat HR.out, ← hje]; exact hn
                    have HP := hide_of hP
                    have HG3 := hide_of hga
                    clear hga hn hP
                    go_wp2_with fail
                    refine ⟨⟨a + 1, by omega, by simp, by rw [HE.out], by rw [← HE.out, ← HP.out], HG3.out⟩, ?_⟩
                    simp only [intOf]; omega
              · have hal' : ¬ (a : Int) < (Rs.length : Int) := by omega
                have hae : a = Rs.length := by omega
                obtain ⟨l1, l2⟩ := hga.len
                rw [← hae] at l1 l2
                rw [l2] at h17
                rw [l1] at h16
                subst h16 h17
                have s1 := hga.fr.ks.c1
                have HBL : Hid (Below w.heap.size w wr) := by have := hga.fr.below; rw [← HHN.out] at this; exact this
                clear hga l1 l2
                go_wp2_with fail
                go_ret
                exact ⟨rfl, HBL.out⟩

theorem walk_big (sa : Option Addr) (len cap : Nat) (w : World) (hb : 1024 < len) :
    Calls Yba.prog 3 #[.slice sa len cap] w fun e w' => e = .returned (.bool true) ∧ Below w.heap.size w w' := by
  have hb' : (1024 : Int) < (len : Int) := by omega
  go_enter Yba.func3, Yba.ntmps3
  go_wp2_with fail
  go_ret
  exact ⟨rfl, Below.refl _ _⟩
end Go.Proofs.Ybulkddve.Law
