/-
  A PROOF OF 'Rows.LawS5268BHoldSaid' ('example.com/quorumlatch/quorumlatch.LawS5268BHold'): the row over the walk. The frame is turned from the kit's worked shell for a slice.
-/
import Derived.Test.YbulkdebqRows
import Derived.Test.YbulkdebqWalk
import Derived.WalkKit
import Derived.ProofKit
import Derived.OpenShut
import Derived.ShutString
import Derived.ChangeOld
import Derived.Below
import Derived.Deep.Slices
namespace Go.Proofs.Ybulkdebq.lawS5268BHold
open Go.ChangeShapes Go.WideShapes Go.ChangeAt Go.RowKit Law
set_option linter.unusedVariables false

theorem own : ownKnob Yba.prog.godebug = none := by kernel_rfl
theorem laidOut : laidOutB Yba.prog = true := by kernel_rfl
theorem cells43 : Yba.prog.cellsOf 43 = 5 := by kernel_rfl
theorem cells2 : Yba.prog.cellsOf 2 = 1 := by kernel_rfl
theorem cells5 : Yba.prog.cellsOf 5 = 1 := by kernel_rfl

/-- one step, as its five cells hold it -/
def IsStep (w : World) (a : Addr) : Prop :=
  ∃ s v e nn nr : Int, (-9223372036854775808 ≤ s ∧ s ≤ 9223372036854775807 ∧ 0 ≤ nn ∧ nn ≤ 255 ∧ 0 ≤ nr ∧ nr ≤ 255) ∧ w.cell? a = some (.int .i64 s) ∧ w.cell? (a.add 1) = some (.int .i64 v) ∧
    w.cell? (a.add 2) = some (.int .i64 e) ∧ w.cell? (a.add 3) = some (.int .u8 nn) ∧ w.cell? (a.add 4) = some (.int .u8 nr)

/-- what the walk is told of the slice that came in -/
def IsSteps (w : World) (a : Option Addr) (len cap : Nat) : Prop :=
  (a = none ∧ len = 0 ∧ cap = 0) ∨ ∃ x, a = some x ∧ len ≤ cap ∧ cap ≤ maxLen ∧ ∀ i, i < len → IsStep w (x.add (i * 5))

theorem walk (pre : Int) (a : Option Addr) (len cap : Nat) (w : World) (wp : (Lit.int .i64 pre).wf = true) (hr : IsSteps w a len cap) :
    Calls Yba.prog 3 #[.int .i64 pre, .slice a len cap] w fun e w' => e = .returned (.bool true) ∧ Below w.heap.size w w' := by
  obtain ⟨p1, p2⟩ := bounds_i64 wp
  have hm : len ≤ maxLen := by
    rcases hr with ⟨_, rfl, _⟩ | ⟨x, _, h1, h2, _⟩ <;> omega
  by_cases hbig : 1024 < len
  · exact walk_big pre a len cap w hbig hm
  by_cases h0 : len = 0
  · subst h0; exact walk_zero pre a cap w p1 p2
  rcases hr with ⟨_, rfl, _⟩ | ⟨⟨b, off, spot⟩, rfl, h1, h2, hc⟩
  · exact absurd rfl h0
  have hz := hc 0 (by omega)
  obtain ⟨s, v, e, nn, nr, _, k0, _⟩ := hz
  have hspot : spot = none := by simpa [Addr.add] using World.cell?_spot k0
  subst hspot
  have hb : b < w.heap.size := by
    have := World.block_lt_of_cell? w _ k0
    simpa [Addr.add] using this
  have ad : ∀ n, (⟨b, off, none⟩ : Addr).add n = ⟨b, off + n, none⟩ := fun n => by unfold Addr.add; split <;> simp_all
  have ad2 : ∀ m n, (⟨b, off + m, none⟩ : Addr).add n = ⟨b, off + m + n, none⟩ := fun m n => by unfold Addr.add; split <;> simp_all
  refine walk_some pre b off len cap w p1 p2 hbig hb fun i hi => ?_
  obtain ⟨s, v, e, nn, nr, hbd, g0, g1, g2, g3, g4⟩ := hc i hi
  rw [ad] at g0
  rw [ad, ad2] at g1 g2 g3 g4
  exact ⟨s, v, e, nn, nr, hbd, g0, g1, g2, g3, g4⟩

set_option maxRecDepth 100000 in
theorem isStep_of {H : Type} {enc : TypeId × Value → H} {w : World} {sp : Nat → Bool} {held : Bool} {n : Nat} {a : Addr} {cs : List Value} {x : DataW H × List MemPlace}
    (h1 : w.cells? 0 a 5 = some cs) (h2 : DataW.trod enc Yba.prog w 0 sp held n 43 cs = some x) : IsStep w a := by
  obtain ⟨_, hlen, hcell⟩ := World.cells?_some h1
  obtain ⟨xs, k, hk, hxy, _, hxl, hf⟩ := DataW.trod_struct Yba.underlying43 h2
  match xs, hxl, cs, hlen with
  | [y0, y1, y2, y3, y4], _, [v0, v1, v2, v3, v4], _ =>
    have f0 := hf 0 _ rfl
    have f1 := hf 1 _ rfl
    have f2 := hf 2 _ rfl
    have f3 := hf 3 _ rfl
    have f4 := hf 4 _ rfl
    simp [cells2, cells5] at f0 f1 f2 f3 f4
    obtain ⟨s, e0, _, w0⟩ := DataW.trod_int Yba.underlying2 f0
    obtain ⟨v, e1, _, w1⟩ := DataW.trod_int Yba.underlying2 f1
    obtain ⟨e, e2, _, w2⟩ := DataW.trod_int Yba.underlying2 f2
    obtain ⟨nn, e3, _, w3⟩ := DataW.trod_int Yba.underlying5 f3
    obtain ⟨nr, e4, _, w4⟩ := DataW.trod_int Yba.underlying5 f4
    simp at e0 e1 e2 e3 e4
    subst e0 e1 e2 e3 e4
    have b0 := bounds_i64 w0
    have b3 := bounds_u8 w3
    have b4 := bounds_u8 w4
    refine ⟨s, v, e, nn, nr, ⟨b0.1, b0.2, b3.1, b3.2, b4.1, b4.2⟩, ?_, ?_, ?_, ?_, ?_⟩
    · have z := hcell 0 (by omega)
      rw [show a.add 0 = a from by simp [Addr.add]] at z
      simpa using z
    · simpa using hcell 1 (by omega)
    · simpa using hcell 2 (by omega)
    · simpa using hcell 3 (by omega)
    · simpa using hcell 4 (by omega)

set_option maxRecDepth 100000 in
theorem lifted (os : Os) (started : os.Started) (H : Type) (enc : TypeId × Value → H) :
    ReturnsInHanded {} Yba.checked os 3 .any (Rows.lawS5268BHoldSpec.pre6 enc Yba.prog Yba.f3 Rows.lawS5268BHoldRow.domain false) (Rows.lawS5268BHoldSpec.post enc Yba.prog Yba.f3 false true false false) := by
  refine returnsInHanded_of_change (C := Yba.checked) own started (by kernel_rfl) Yba.func3
    (ChangeSpec.witness6 (enc := enc) (C := Yba.checked) false ⟨#[], #[.int .i64 0, .slice none 0 0], []⟩ 8 (by kernel_rfl) (by kernel_rfl) (by kernel_rfl) (by kernel_rfl)) ?_
  intro W base args ds gs before hval0 hW hcnd _
  have hval : ∀ (j : Nat) t v, Yba.f3.params[j]? = some t → args[j]? = some v → Value.okWide Yba.prog W .any base t v := hval0
  have hW' := hW
  obtain ⟨p, q, hA0, hV, rfl, hfz, hnd⟩ := hW
  have hA : DataW.TrodAll enc Yba.prog W 0 (fun _ => true) true Yba.f3.params.toList args.toList ds p := hA0
  rw [Yba.params3] at hA hval
  obtain ⟨v0, vs0, d0, ds0, p0, q0, hargs, rfl, rfl, h0, r0⟩ := trodAll_cons hA
  obtain ⟨v1, vs1, d1, ds1, p1, q1, rfl, rfl, rfl, h1, r1⟩ := trodAll_cons r0
  obtain ⟨rfl, rfl, rfl⟩ := trodAll_nil r1
  obtain rfl : args = #[v0, v1] := by cases args; simp_all
  obtain ⟨rfl, rfl⟩ := trodVars_none hV
  obtain ⟨a0, rfl, rfl, rfl, w0⟩ := open_int Yba.underlying2 (hval 0 2 v0 rfl rfl) h0
  obtain ⟨a1, len1, cap1, rfl⟩ := okWide_slice Yba.underlying22 (hval 1 22 v1 rfl rfl)
  have k1 := h1
  have lt1 : ∀ x ∈ p1, x.block < W.heap.size := by obtain ⟨m, hm⟩ := k1; exact DataW.trod_lt m _ _ _ hm
  have w1 : IsSteps W a1 len1 cap1 := by
    obtain ⟨fuel, hf⟩ := h1
    rcases Go.Deep.open_slice Yba.underlying22 hf with ⟨hcs, _⟩ | ⟨x, l, c, m, n, D, Pl, hcs, _, hl, hm, hmm, _, hcell⟩
    · simp [Value.cells] at hcs
      obtain ⟨rfl, rfl, rfl⟩ := hcs
      exact .inl ⟨rfl, rfl, rfl⟩
    · simp [Value.cells] at hcs
      obtain ⟨rfl, rfl, rfl⟩ := hcs
      refine .inr ⟨_, rfl, hl, hm, fun i hi => ?_⟩
      have hi' : i < m := by rw [hmm]; simp; omega
      obtain ⟨cs', hc, ht⟩ := hcell i hi'
      rw [cells43] at hc
      exact isStep_of hc ht
  clear hA0 hval0
  refine (walk a0 a1 len1 cap1 W w0 w1).mono fun e W' ⟨he, bel⟩ => ?_
  subst he
  exact ⟨_, rfl, _, _, _, [], _, [], hW', trodAll_mk1 (shut_bool Yba.underlying4 _), (trodAll_cons_mk (shut_int Yba.underlying2 w0) (trodAll_cons_mk (Below.trod laidOut (by kernel_rfl) (of_decide_eq_true (by kernel_rfl)) k1 bel lt1) trodAll_mk0)), rfl, bel.frame _, fun h => by cases h⟩

theorem over : Rows.lawS5268BHoldRow.holds Yba.pinned (OpenSpec.ofChange Rows.lawS5268BHoldSpec) :=
  OpenClaim.holds_of_wide 3 Yba.f3 rfl rfl rfl rfl rfl rfl rfl ⟨rfl, rfl, rfl, rfl, rfl⟩ rfl rfl rfl rfl rfl (by kernel_rfl) Yba.func3 (by kernel_rfl)
    (of_decide_eq_true (by kernel_rfl)) (by unfold Func.isWrapper; first | (rw [if_pos (by decide +kernel)]; kernel_rfl) | (rw [if_neg (by decide +kernel)]; exact ⟨rfl, rfl⟩))
    (fun os started H enc _ => lifted os started H enc)

/-- THE STATEMENT -/
theorem proved : Rows.LawS5268BHoldSaid := over
end Go.Proofs.Ybulkdebq.lawS5268BHold
