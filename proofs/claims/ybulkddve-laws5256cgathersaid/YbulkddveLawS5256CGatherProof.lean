/-
  A PROOF OF 'Rows.LawS5256CGatherSaid' ('example.com/mortise/mortise/internal/txn.LawS5256CGather'): the row over the walk. The frame is turned from the kit's worked shell for a slice.
-/
import Derived.Test.YbulkddveRows
import Derived.Test.YbulkddveLaw
import Derived.WalkKit
import Derived.ProofKit
import Derived.OpenShut
import Derived.ShutString
import Derived.ChangeOld
import Derived.Below
import Derived.Deep.Slices
namespace Go.Proofs.Ybulkddve.lawS5256CGather
open Go.ChangeShapes Go.WideShapes Go.ChangeAt Go.RowKit Law Parts
set_option linter.unusedVariables false

theorem own : ownKnob Yba.prog.godebug = none := by kernel_rfl
theorem laidOut : laidOutB Yba.prog = true := by kernel_rfl
theorem cells25 : Yba.prog.cellsOf 25 = 3 := by kernel_rfl
theorem cells23 : Yba.prog.cellsOf 23 = 1 := by kernel_rfl
theorem cells5 : Yba.prog.cellsOf 5 = 1 := by kernel_rfl
theorem cells4 : Yba.prog.cellsOf 4 = 1 := by kernel_rfl

/-- one key, as its three cells hold it -/
def IsKey (w : World) (a : Addr) : Prop :=
  ∃ d : Kd, (0 ≤ d.q ∧ d.q ≤ 255) ∧ w.cell? a = some d.v ∧ w.cell? (a.add 1) = some (.int .u8 d.q) ∧ w.cell? (a.add 2) = some (.bool d.c) ∧ LiesW w d.v d.xs

/-- what the walk is told of the slice that came in -/
def IsKeys (w : World) (a : Option Addr) (len cap : Nat) : Prop :=
  (a = none ∧ len = 0 ∧ cap = 0) ∨ ∃ x, a = some x ∧ len ≤ cap ∧ cap ≤ maxLen ∧ ∀ i, i < len → IsKey w (x.add (i * 3))

theorem choose_list {α : Type} : ∀ (n : Nat) (p : Nat → α → Prop), (∀ i, i < n → ∃ x, p i x) → ∃ l : List α, l.length = n ∧ ∀ i x, l[i]? = some x → p i x
  | 0, _, _ => ⟨[], rfl, fun i x h => by simp at h⟩
  | n + 1, p, h => by
    obtain ⟨l, hl, hp⟩ := choose_list n p fun i hi => h i (by omega)
    obtain ⟨y, hy⟩ := h n (by omega)
    refine ⟨l ++ [y], by simp [hl], fun i x hx => ?_⟩
    by_cases hi : i < l.length
    · rw [List.getElem?_append_left hi] at hx
      exact hp i x hx
    · rw [List.getElem?_append_right (by omega)] at hx
      have h2 := (List.getElem?_eq_some_iff.1 hx).1
      simp at h2
      have h3 : i = n := by omega
      subst h3
      rw [hl] at hx
      simp at hx
      subst hx
      exact hy

theorem walk (a : Option Addr) (len cap : Nat) (w : World) (hr : IsKeys w a len cap) :
    Calls Yba.prog 3 #[.slice a len cap] w fun e w' => e = .returned (.bool true) ∧ Below w.heap.size w w' := by
  by_cases hbig : 1024 < len
  · exact walk_big a len cap w hbig
  by_cases h0 : len = 0
  · subst h0
    exact walk_some a 0 0 0 cap w [] (fun h => absurd rfl h) hbig rfl (fun i d h => by simp at h)
  rcases hr with ⟨_, rfl, _⟩ | ⟨⟨b, off, spot⟩, rfl, h1, h2, hc⟩
  · exact absurd rfl h0
  obtain ⟨d, _, k0, _⟩ := hc 0 (by omega)
  have hspot : spot = none := by simpa [Addr.add] using World.cell?_spot k0
  subst hspot
  have ad : ∀ n, (⟨b, off, none⟩ : Addr).add n = ⟨b, off + n, none⟩ := fun n => by unfold Addr.add; split <;> simp_all
  have ad2 : ∀ m n, (⟨b, off + m, none⟩ : Addr).add n = ⟨b, off + m + n, none⟩ := fun m n => by unfold Addr.add; split <;> simp_all
  obtain ⟨K, hK, hAt⟩ := choose_list len (fun i d => KeyAt w b off i d) fun i hi => by
    obtain ⟨d, hq, g0, g1, g2, hl⟩ := hc i hi
    rw [ad] at g0
    rw [ad, ad2] at g1 g2
    exact ⟨d, hq.1, hq.2, g0, g1, g2, hl⟩
  exact walk_some _ b off len cap w K (fun _ => rfl) hbig hK hAt

set_option maxRecDepth 100000 in
theorem lies_of {H : Type} {enc : TypeId × Value → H} {w : World} {sp : Nat → Bool} {held : Bool} {n : Nat} {v : Value} {x : DataW H × List MemPlace}
    (h : DataW.trod enc Yba.prog w 0 sp held n 23 [v] = some x) : ∃ xs, LiesW w v xs := by
  rcases open_ints Yba.underlying23 Yba.underlying5 cells5 h with ⟨hv, _⟩ | ⟨⟨b, off, spot⟩, len, cap, zs, hv, _, hl, _, hzl, _, hcell, _⟩
  · simp at hv
    exact ⟨[], .inl (.inl ⟨hv, rfl⟩)⟩
  · simp at hv
    subst hv
    have hlz : len ≤ zs.length := by rw [hzl]; split <;> omega
    by_cases h0 : len = 0
    · subst h0
      exact ⟨[], .inr ⟨_, _, rfl, rfl⟩⟩
    have k0 := hcell 0 (by omega)
    have hspot : spot = none := by simpa [Addr.add] using World.cell?_spot k0
    subst hspot
    have ad : ∀ n, (⟨b, off, none⟩ : Addr).add n = ⟨b, off + n, none⟩ := fun n => by unfold Addr.add; split <;> simp_all
    have htl : (zs.take len).length = len := by simp; omega
    refine ⟨zs.take len, .inl <| .inr ⟨b, off, cap, by rw [htl], fun i hi => ?_⟩⟩
    rw [htl] at hi
    have := hcell i (by omega)
    rw [ad] at this
    rw [this]
    simp [List.getD_eq_getElem?_getD, hi]

set_option maxRecDepth 100000 in
theorem isKey_of {H : Type} {enc : TypeId × Value → H} {w : World} {sp : Nat → Bool} {held : Bool} {n : Nat} {a : Addr} {cs : List Value} {x : DataW H × List MemPlace}
    (h1 : w.cells? 0 a 3 = some cs) (h2 : DataW.trod enc Yba.prog w 0 sp held n 25 cs = some x) : IsKey w a := by
  obtain ⟨_, hlen, hcell⟩ := World.cells?_some h1
  obtain ⟨xs, k, hk, hxy, _, hxl, hf⟩ := DataW.trod_struct Yba.underlying25 h2
  match xs, hxl, cs, hlen with
  | [y0, y1, y2], _, [v0, v1, v2], _ =>
    have f0 := hf 0 _ rfl
    have f1 := hf 1 _ rfl
    have f2 := hf 2 _ rfl
    simp [cells23, cells5, cells4] at f0 f1 f2
    obtain ⟨zs, hz⟩ := lies_of f0
    obtain ⟨q, e1, _, w1⟩ := DataW.trod_int Yba.underlying5 f1
    obtain ⟨c, e2, _⟩ := DataW.trod_bool Yba.underlying4 f2
    simp at e1 e2
    subst e1 e2
    have b1 := bounds_u8 w1
    refine ⟨⟨v0, zs, q, c⟩, b1, ?_, ?_, ?_, hz⟩
    · have z := hcell 0 (by omega)
      rw [show a.add 0 = a from by simp [Addr.add]] at z
      simpa using z
    · simpa using hcell 1 (by omega)
    · simpa using hcell 2 (by omega)

set_option maxRecDepth 100000 in
theorem lifted (os : Os) (started : os.Started) (H : Type) (enc : TypeId × Value → H) :
    ReturnsInHanded {} Yba.checked os 3 .any (Rows.lawS5256CGatherSpec.pre6 enc Yba.prog Yba.f3 Rows.lawS5256CGatherRow.domain false) (Rows.lawS5256CGatherSpec.post enc Yba.prog Yba.f3 false true false false) := by
  refine returnsInHanded_of_change (C := Yba.checked) own started (by kernel_rfl) Yba.func3
    (ChangeSpec.witness6 (enc := enc) (C := Yba.checked) false ⟨#[], #[.slice none 0 0], []⟩ 8 (by kernel_rfl) (by kernel_rfl) (by kernel_rfl) (by kernel_rfl)) ?_
  intro W base args ds gs before hval0 hW hcnd _
  have hval : ∀ (j : Nat) t v, Yba.f3.params[j]? = some t → args[j]? = some v → Value.okWide Yba.prog W .any base t v := hval0
  have hW' := hW
  obtain ⟨p, q, hA0, hV, rfl, hfz, hnd⟩ := hW
  have hA : DataW.TrodAll enc Yba.prog W 0 (fun _ => true) true Yba.f3.params.toList args.toList ds p := hA0
  rw [Yba.params3] at hA hval
  obtain ⟨v1, vs1, d1, ds1, p1, q1, hargs, rfl, rfl, h1, r1⟩ := trodAll_cons hA
  obtain ⟨rfl, rfl, rfl⟩ := trodAll_nil r1
  obtain rfl : args = #[v1] := by cases args; simp_all
  obtain ⟨rfl, rfl⟩ := trodVars_none hV
  obtain ⟨a1, len1, cap1, rfl⟩ := okWide_slice Yba.underlying22 (hval 0 22 v1 rfl rfl)
  have k1 := h1
  have lt1 : ∀ x ∈ p1, x.block < W.heap.size := by obtain ⟨m, hm⟩ := k1; exact DataW.trod_lt m _ _ _ hm
  have w1 : IsKeys W a1 len1 cap1 := by
    obtain ⟨fuel, hf⟩ := h1
    rcases Go.Deep.open_slice Yba.underlying22 hf with ⟨hcs, _⟩ | ⟨x, l, c, m, n, D, Pl, hcs, _, hl, hm, hmm, _, hcell⟩
    · simp [Value.cells] at hcs
      obtain ⟨rfl, rfl, rfl⟩ := hcs
      exact .inl ⟨rfl, rfl, rfl⟩
    · simp [Value.cells] at hcs
      obtain ⟨rfl, rfl, rfl⟩ := hcs
      refine .inr ⟨_, rfl, hl, hm, fun i hi => ?_⟩
      have hi' : i < m := by rw [hmm]; simp; omega
      obtain ⟨cs', hc, ht⟩ := hcell i hi'
      rw [cells25] at hc
      exact isKey_of hc ht
  clear hA0 hval0
  refine (walk a1 len1 cap1 W w1).mono fun e W' ⟨he, bel⟩ => ?_
  subst he
  exact ⟨_, rfl, _, _, _, [], _, [], hW', trodAll_mk1 (shut_bool Yba.underlying4 _), trodAll_cons_mk (Below.trod laidOut (by kernel_rfl) (of_decide_eq_true (by kernel_rfl)) k1 bel lt1) trodAll_mk0, rfl, bel.frame _, fun h => by cases h⟩

theorem over : Rows.lawS5256CGatherRow.holds Yba.pinned (OpenSpec.ofChange Rows.lawS5256CGatherSpec) :=
  OpenClaim.holds_of_wide 3 Yba.f3 rfl rfl rfl rfl rfl rfl rfl ⟨rfl, rfl, rfl, rfl, rfl⟩ rfl rfl rfl rfl rfl (by kernel_rfl) Yba.func3 (by kernel_rfl)
    (of_decide_eq_true (by kernel_rfl)) (by unfold Func.isWrapper; first | (rw [if_pos (by decide +kernel)]; kernel_rfl) | (rw [if_neg (by decide +kernel)]; exact ⟨rfl, rfl⟩))
    (fun os started H enc _ => lifted os started H enc)

/-- THE STATEMENT -/
theorem proved : Rows.LawS5256CGatherSaid := over
end Go.Proofs.Ybulkddve.lawS5256CGather
