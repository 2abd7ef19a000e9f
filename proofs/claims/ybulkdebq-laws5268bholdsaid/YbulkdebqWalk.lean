/-
  The walk of 'LawS5268BHold'.
-/
import Derived.Test.YbulkdebqMid
import Derived.Deep.DeepCutAuto
import Derived.Deep.Light
namespace Go.Proofs.Ybulkdebq.Law
open Go.ChangeShapes Go.WideShapes Go.ChangeAt Go.RowKit Go.MuLone TimeAdd Parts

theorem hide_of {p : Prop} (h : p) : Hid p := h
set_option maxRecDepth 100000 in
set_option maxHeartbeats 4000000 in
theorem walk_some (pre : Int) (b off len cap : Nat) (w : World) (p1 : -9223372036854775808 ≤ pre) (p2 : pre ≤ 9223372036854775807) (hs : ¬ 1024 < len) (hbs : b < w.heap.size)
    (hcell : ∀ i, i < len → ∃ s v e nn nr : Int, (-9223372036854775808 ≤ s ∧ s ≤ 9223372036854775807 ∧ 0 ≤ nn ∧ nn ≤ 255 ∧ 0 ≤ nr ∧ nr ≤ 255) ∧ w.cell? ⟨b, off + i * 5, none⟩ = some (.int .i64 s) ∧ w.cell? ⟨b, off + i * 5 + 1, none⟩ = some (.int .i64 v)
      ∧ w.cell? ⟨b, off + i * 5 + 2, none⟩ = some (.int .i64 e) ∧ w.cell? ⟨b, off + i * 5 + 3, none⟩ = some (.int .u8 nn) ∧ w.cell? ⟨b, off + i * 5 + 4, none⟩ = some (.int .u8 nr)) :
    Calls Yba.prog 3 #[.int .i64 pre, .slice (some ⟨b, off, none⟩) len cap] w fun e w' => e = .returned (.bool true) ∧ Below w.heap.size w w' := by
  have hb' : ¬ (1024 : Int) < (len : Int) := by omega
  have HC : Hid (∀ i, i < len → ∃ s v e nn nr : Int, (-9223372036854775808 ≤ s ∧ s ≤ 9223372036854775807 ∧ 0 ≤ nn ∧ nn ≤ 255 ∧ 0 ≤ nr ∧ nr ≤ 255) ∧ w.cell? ⟨b, off + i * 5, none⟩ = some (.int .i64 s) ∧ w.cell? ⟨b, off + i * 5 + 1, none⟩ = some (.int .i64 v)
      ∧ w.cell? ⟨b, off + i * 5 + 2, none⟩ = some (.int .i64 e) ∧ w.cell? ⟨b, off + i * 5 + 3, none⟩ = some (.int .u8 nn) ∧ w.cell? ⟨b, off + i * 5 + 4, none⟩ = some (.int .u8 nr)) := hcell
  clear hcell
  go_enter Yba.func3, Yba.ntmps3
  go_wp2_with fail
  refine (add_zero pre _ p1 p2).mono ?_
  rintro e w' ⟨px, py, rfl, px1, px2, rfl⟩
  clear p1 p2 px1 px2
  go_wp2_with fail
  go_loopw [31] (fun i wr => ∃ k : Nat, k ≤ len ∧ i = .int .i64 k ∧ ∃ ax ay, Inv w wr ax ay) (fun i _ => len - (intOf i).toNat)
  case atStart =>
    refine ⟨0, Nat.zero_le _, rfl, px, py, ?_⟩
    refine ⟨(((((Below.refl _ _).alloc (by simp) _).alloc (by simp) _).alloc (by simp; omega) _).alloc (by simp; omega) _).alloc (by simp; omega) _, by simp, ⟨by simp, by simp [go_sem], by simp [go_sem], by simp [go_sem], by simp [go_sem], by simp [go_sem], by simp [go_sem], by simp [go_sem], ?_, ?_⟩, by simp [go_sem], by simp [go_sem], by simp [go_sem], ?_⟩
    · intro o ho
      have : o = 0 ∨ o = 1 ∨ o = 2 ∨ o = 3 ∨ o = 4 ∨ o = 5 ∨ o = 6 ∨ o = 7 ∨ o = 8 ∨ o = 9 ∨ o = 10 ∨ o = 11 ∨ o = 12 ∨ o = 13 ∨ o = 14 ∨ o = 15 ∨ o = 16 := by omega
      rcases this with rfl | rfl | rfl | rfl | rfl | rfl | rfl | rfl | rfl | rfl | rfl | rfl | rfl | rfl | rfl | rfl | rfl <;> simp [go_sem]
    · intro o; simp [go_sem]
    · intro o; simp [go_sem]
  case round =>
    obtain ⟨k, hk, rfl, ax, ay, A⟩ := hrel
    by_cases hlt : k < len
    · obtain ⟨s, v, e, nn, nr, ⟨s1, s2, n1, n2, r1, r2⟩, h0, h1, h2, h3, h4⟩ := HC.out k hlt
      have hlt' : (k : Int) < (len : Int) := by omega
      have g0 : wr.cell? ⟨b, off + k * 5, none⟩ = some (.int .i64 s) := (A.below.cell (p := ⟨b, _, none⟩) hbs).trans h0
      have g1 : wr.cell? ⟨b, off + k * 5 + 1, none⟩ = some (.int .i64 v) := (A.below.cell (p := ⟨b, _, none⟩) hbs).trans h1
      have g2 : wr.cell? ⟨b, off + k * 5 + 2, none⟩ = some (.int .i64 e) := (A.below.cell (p := ⟨b, _, none⟩) hbs).trans h2
      have g3 : wr.cell? ⟨b, off + k * 5 + 3, none⟩ = some (.int .u8 nn) := (A.below.cell (p := ⟨b, _, none⟩) hbs).trans h3
      have g4 : wr.cell? ⟨b, off + k * 5 + 4, none⟩ = some (.int .u8 nr) := (A.below.cell (p := ⟨b, _, none⟩) hbs).trans h4
      clear h0 h1 h2 h3 h4
      have M0 := fun sx sy => mid_start A s v e nn nr sx sy
      obtain ⟨S, hS⟩ : ∃ S, wr.heap.size = S := ⟨_, rfl⟩
      rw [hS] at M0
      obtain ⟨kn, hkn⟩ : ∃ kn : Nat, nn % 6 = (kn : Int) := ⟨(nn % 6).toNat, by omega⟩
      have hkn6 : kn < 6 := by omega
      obtain ⟨kr, hkr⟩ : ∃ kr : Nat, nr % 6 = (kr : Int) := ⟨(nr % 6).toNat, by omega⟩
      have hkr6 : kr < 6 := by omega
      go_wp2_with fail
      refine (add_zero s _ s1 s2).mono ?_
      rintro e' w' ⟨sx, sy, rfl, sx1, sx2, rfl⟩
      clear s1 s2 sx1 sx2 g0 g1 g2 g3 g4
      have M1 := M0 sx sy
      go_upto_if 44 with fail
      go_cut [12] (fun s12 wx => SlOk s12 ∧ Mid w S ax ay sx sy v e nr wx)
      case first =>
        by_cases h5 : kn < 5
        · have h5' : (kn : Int) < 5 := by omega
          obtain ⟨C, hC, hmk⟩ := make38 kn h5 ((((wr.alloc (.cells #[.int .i64 s, .int .i64 v, .int .i64 e, .int .u8 nn, .int .u8 nr] 43)).alloc (.cells #[.int .u64 sx, .int .i64 sy, .pointer none] 26)).alloc (.cells #[.int .u64 sx, .int .i64 sy, .pointer none] 26)).alloc (.cells #[.int .u64 sx, .int .i64 sy, .pointer none] 26))
          have HS := hide_of (start38 (t := 48) M1 (by simp; omega) hC)
          simp only [World.size_alloc, hS] at hmk
          clear hC M0 M1 A
          go_wp2
          go_loopw [49] (fun i wy => ∃ j : Nat, j ≤ kn ∧ i = .int .i64 j ∧ Mid w S ax ay sx sy v e nr wy ∧ Row (S + 1 + 1 + 1 + 1) (3 * kn) wy ∧ S + 5 ≤ wy.heap.size) (fun i _ => kn - (intOf i).toNat)
          case atStart => exact ⟨0, Nat.zero_le _, rfl, HS.out⟩
          case round =>
            obtain ⟨j, hj, rfl, M, R, Z⟩ := hrel
            by_cases hjl : j < kn
            · have hjl' : (j : Int) < (kn : Int) := by omega
              obtain ⟨x0, y0⟩ := R.cell (j * 3) (by omega)
              obtain ⟨x1, y1⟩ := R.cell (j * 3 + 1) (by omega)
              obtain ⟨x2, y2⟩ := R.cell (j * 3 + 2) (by omega)
              have fz := R.fz
              go_wp2
              go_roundw
              case rel => exact step38 M R Z hjl _ _ _
              case measure => simp [intOf]; omega
            · have hjl' : ¬ (j : Int) < (kn : Int) := by omega
              go_wp2
              go_meet
              exact ⟨⟨some ⟨S + 1 + 1 + 1 + 1, 0, none⟩, kn, kn, rfl, .inr ⟨_, _, rfl⟩⟩, M⟩
        · have h5' : ¬ (kn : Int) < 5 := by omega
          go_wp2
          go_meet
          exact ⟨⟨none, 0, 0, rfl, .inl rfl⟩, M1⟩
      case rest =>
        clear M0 M1 A hS
        obtain ⟨⟨an, ln, cn, rfl, okn⟩, M1⟩ := hcut
        have e4 := M1.s4
        go_upto_if 63 with fail
        go_cut [15] (fun s15 wx => SlOk s15 ∧ Mid w S ax ay sx sy v e nr wx)
        case first =>
          by_cases h5 : kr < 5
          · have h5' : (kr : Int) < 5 := by omega
            obtain ⟨C, hC, hmk⟩ := make39 kr h5 wc
            have HS := hide_of (start39 (t := 49) M1 hC)
            have HB := hide_of M1.size
            obtain ⟨B, hB⟩ : ∃ B, wc.heap.size = B := ⟨_, rfl⟩
            rw [hB] at hmk HS HB
            clear hC M1 e4
            go_wp2
            go_loopw [68] (fun i wy => ∃ j : Nat, j ≤ kr ∧ i = .int .i64 j ∧ Mid w S ax ay sx sy v e nr wy ∧ Row B kr wy ∧ B < wy.heap.size) (fun i _ => kr - (intOf i).toNat)
            case atStart => exact ⟨0, Nat.zero_le _, rfl, HS.out⟩
            case round =>
              obtain ⟨j, hj, rfl, M, R, Z⟩ := hrel
              by_cases hjl : j < kr
              · have hjl' : (j : Int) < (kr : Int) := by omega
                obtain ⟨x0, y0⟩ := R.cell j (by omega)
                have fz := R.fz
                have y0' : ∀ o, (wr.alloc o).cell? ⟨B, j, none⟩ = some x0 := fun o => (World.cell?_alloc_past o B j Z).trans y0
                have fz' : ∀ o i, (wr.alloc o).frozen? ⟨B, i, none⟩ = false := fun o i => (World.frozen?_alloc_past o B i Z).trans (fz i)
                go_wp2
                go_roundw
                case rel =>
                  exact step39 M HB.out R Z hjl _ _
                case measure => simp [intOf]; omega
              · have hjl' : ¬ (j : Int) < (kr : Int) := by omega
                go_wp2
                go_meet
                exact ⟨⟨some ⟨B, 0, none⟩, kr, kr, rfl, .inr ⟨_, _, rfl⟩⟩, M⟩
          · have h5' : ¬ (kr : Int) < 5 := by omega
            go_wp2
            go_meet
            exact ⟨⟨none, 0, 0, rfl, .inl rfl⟩, M1⟩
        case rest =>
          clear M1 e4
          obtain ⟨⟨ar, lr, cr, rfl, okr⟩, M2⟩ := hcut
          have e0 := M2.w0; have e1 := M2.w1; have e2 := M2.w2
          go_upto_if 78 with (go_at_call 5; refine (isZero_any _ _ _).mono ?_; rintro e w' ⟨rfl, rfl⟩)
          go_cut [] (fun wx => Mid2 w S ax ay (pick ax ay ax sx) (pick ax ay ay sy) sx sy v e wx)
          case first =>
            have M3 := M2.next (B := wc.heap.size) M2.size ((Below.refl _ wc).alloc (Nat.le_refl _) (.cells #[.int .u64 ax, .int .i64 ay, .pointer none] 26))
            have d0 := M3.w0; have d1 := M3.w1; have d2 := M3.w2; have df := M3.wf
            have u0 := M3.t0; have u1 := M3.t1; have u2 := M3.t2
            have HM := hide_of M2
            have HM3 := hide_of M3
            clear M3 M2
            go_wp2
            · go_meet
              exact mid2_set0 HM3.out (by assumption)
            · go_meet
              exact mid2_keep HM.out _ (by assumption)
          case rest =>
            clear M2 e0 e1 e2
            have e1 := hcut.s1; have e2 := hcut.s2; have u0 := hcut.t0; have u1 := hcut.t1; have u2 := hcut.t2
            go_wp2_with fail
            refine (hold_any _ ax ay sx sy v e an ln cn ar lr cr _ hcut.lk).mono ?_
            rintro e' wz ⟨rfl, HP⟩
            have F := fin_of hcut HP
            clear HP hcut e1 e2 u0 u1 u2
            have u0 := F.t0; have u1 := F.t1; have u2 := F.t2
            have f7 := F.lk.c7; have f8 := F.lk.c8; have f9 := F.lk.c9
            have f10 := F.held.c10; have f11 := F.held.c11; have f12 := F.held.c12; have f13 := F.held.c13; have f14 := F.held.c14; have f15 := F.held.c15; have f16 := F.held.c16
            have g0 := F.w0; have g1 := F.w1; have g2 := F.w2
            have q26 := eq26
            have HF := hide_of F
            clear F
            go_wp2
            go_quiet (fail)
            go_wp2
            go_quiet (fail)
            go_wp2_with (first | (go_at_call 7; refine (nodes_same an ln cn _ okn).mono ?_; rintro e' w' ⟨rfl, nq, rfl⟩) | (go_at_call 8; refine (reqs_same ar lr cr _ okr).mono ?_; rintro e' w' ⟨rfl, nq, rfl⟩))
            go_roundw
            case rel => exact ⟨k + 1, by omega, by go_num, _, _, (fin_inv HF.out).draw _⟩
            case measure => simp [intOf]; omega
    · have hlt' : ¬ (k : Int) < (len : Int) := by omega
      have l0 := A.lk.c0; have l1 := A.lk.c1; have l2 := A.lk.c2
      go_wp2
      go_ret
      exact ⟨rfl, A.below⟩

set_option maxRecDepth 100000 in
theorem walk_big (pre : Int) (a : Option Addr) (len cap : Nat) (w : World) (hbig : 1024 < len) (hm : len ≤ maxLen) :
    Calls Yba.prog 3 #[.int .i64 pre, .slice a len cap] w fun e w' => e = .returned (.bool true) ∧ Below w.heap.size w w' := by
  unfold maxLen at hm
  have hb' : (1024 : Int) < (len : Int) := by omega
  go_enter Yba.func3, Yba.ntmps3
  go_wp2
  go_ret
  exact ⟨rfl, Below.refl _ _⟩

set_option maxRecDepth 100000 in
set_option maxHeartbeats 1000000 in
theorem walk_zero (pre : Int) (a : Option Addr) (cap : Nat) (w : World) (p1 : -9223372036854775808 ≤ pre) (p2 : pre ≤ 9223372036854775807) :
    Calls Yba.prog 3 #[.int .i64 pre, .slice a 0 cap] w fun e w' => e = .returned (.bool true) ∧ Below w.heap.size w w' := by
  go_enter Yba.func3, Yba.ntmps3
  go_wp2_with fail
  refine (add_zero pre _ p1 p2).mono ?_
  rintro e w' ⟨px, py, rfl, px1, px2, rfl⟩
  clear p1 p2 px1 px2
  go_wp2_with fail
  go_loop [31] (fun i => i = .int .i64 0) (fun _ => 0)
  case atStart => rfl
  case round =>
    subst hrel
    go_wp2
    go_ret
    exact ⟨rfl, (((((Below.refl _ _).alloc (by simp) _).alloc (by simp) _).alloc (by simp; omega) _).alloc (by simp; omega) _).alloc (by simp; omega) _⟩
end Go.Proofs.Ybulkdebq.Law
