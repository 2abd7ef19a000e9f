/-
  A PROOF OF 'Rows.LawS5267CTellsOnceSaid' ('example.com/pilotfish/pilotfish.LawS5267CTellsOnce'): the contracts of decideBody, the law's walk, the row. The row's frame is turned from the kit's worked shell for a slice.
-/
import Derived.Test.YbulkdebcRows
import Derived.Test.YbulkdebcChan
import Derived.Conc.LoneSelectN
import Derived.WalkKit
import Derived.WalkLawsBesides
import Derived.Laws.EntriesVeiled
import Derived.ProofKit
import Derived.OpenShut
import Derived.ShutString
import Derived.ChangeOld
import Derived.Below
import Derived.Deep.Slices
namespace Go.Proofs.Ybulkdebc.lawS5267CTellsOnce
set_option linter.unusedVariables false
open Go.ChangeShapes Go.WideShapes Go.ChangeAt Go.RowKit Go.Conc Chan

theorem neq_nn (w : World) : (binOp .neq 38 (.chan none) (.chan none)).run Yba.prog w = .ok (.bool false) w := by kernel_rfl
theorem neq_cn (c : Nat) (w : World) : (binOp .neq 38 (.chan (some c)) (.chan none)).run Yba.prog w = .ok (.bool true) w := by kernel_rfl

set_option maxRecDepth 100000 in
theorem decide_nil (b : Nat) (v : Bool) (w : World) (h23 : w.cell? ⟨b, 23, none⟩ = some (.chan none)) :
    Calls Yba.prog 10 #[.pointer (some ⟨b, 0, none⟩), .bool v] w fun e w' => e = .returned (.tuple #[]) ∧ w' = w := by
  have hn1 := neq_nn; have hn2 := neq_cn
  go_enter Yba.func10, Yba.ntmps10
  go_wp2
  go_end0
  exact ⟨rfl, rfl⟩

set_option maxRecDepth 100000 in
theorem decide_chan (b c : Nat) (v : Bool) (w : World) (h23 : w.cell? ⟨b, 23, none⟩ = some (.chan (some c))) (f23 : w.frozen? ⟨b, 23, none⟩ = false) (hne : b ≠ c)
    (hc : w.heap[c]? = some (.chan 1 #[] false 0 0 false)) :
    Calls Yba.prog 10 #[.pointer (some ⟨b, 0, none⟩), .bool v] w fun e w' => e = .returned (.tuple #[]) ∧
      w' = (w.setChan c 1 #[.bool v] false 1 0 false).setCell ⟨b, 23, none⟩ (.chan none) := by
  have k23 : (w.setChan c 1 #[.bool v] false 1 0 false).cell? ⟨b, 23, none⟩ = some (.chan (some c)) := by rw [cell_setChan _ _ _ _ _ _ _ _ _ _ hne, h23]
  have g23 : (w.setChan c 1 #[.bool v] false 1 0 false).frozen? ⟨b, 23, none⟩ = false := by rw [frozen_setChan _ _ _ _ _ _ _ _ _ _ hne, f23]
  have HC : Hid (w.heap[c]? = some (.chan 1 #[] false 0 0 false)) := hc
  clear hc
  have hn1 := neq_nn; have hn2 := neq_cn
  go_enter Yba.func10, Yba.ntmps10
  rw [stand_region 1]
  go_wp2
  refine wp_stand (wp_of_inReg ?_)
  simp only [List.size_toArray, List.length_cons, List.length_nil, Nat.reduceAdd, Nat.zero_add, List.range, List.range.loop]
  refine InReg.value (v := .pointer (some ⟨b, 0, none⟩)) (w' := w) rfl rfl (by simp [go_sem]) ?_
  refine InReg.value (v := .pointer (some ⟨b, 0, none⟩)) (w' := w) rfl rfl (by simp [go_sem]) ?_
  refine InReg.value (v := .pointer (some ⟨b, 23, none⟩)) (w' := w) rfl rfl (by simp [go_sem]) ?_
  refine InReg.value (v := .chan (some c)) (w' := w) rfl rfl (by simp [go_sem, h23]) ?_
  refine InReg.value (v := .bool v) (w' := w) rfl rfl (by simp [go_sem]) ?_
  refine InReg.send (c := c) (v := .bool v) (z := .tuple #[]) rfl rfl (by simp [execOp, scase, Act.eval, Act.put]) HC.out (by simp) ?_
  refine InReg.nil ?_
  simp only [Act.put, List.setIfInBounds_toArray, List.push_toArray, List.nil_append, Nat.zero_add]
  go_wp2
  go_end0
  exact ⟨rfl, rfl⟩

set_option maxRecDepth 100000 in
theorem walk_big (h : Bool) (a : Option Addr) (len cap : Nat) (w : World) (hbig : 1024 < len) (hm : len ≤ maxLen) :
    Calls Yba.prog 5 #[.bool h, .slice a len cap] w fun e w' => e = .returned (.bool true) ∧ Below w.heap.size w w' := by
  unfold maxLen at hm
  have hb' : (1024 : Int) < (len : Int) := by omega
  go_enter Yba.func5, Yba.ntmps5
  go_wp2
  go_ret
  exact ⟨rfl, Below.refl _ _⟩

theorem eql_nn (w : World) : (binOp .eql 38 (.chan none) (.chan none)).run Yba.prog w = .ok (.bool true) w := by kernel_rfl

set_option maxRecDepth 100000 in
theorem walk_none (a : Option Addr) (len cap : Nat) (w : World) (hs : ¬ 1024 < len)
    (hcell : ∀ i, i < len → ∃ (b off : Nat) (v : Bool), a = some ⟨b, off, none⟩ ∧ b < w.heap.size ∧ w.cell? ⟨b, off + i, none⟩ = some (.bool v)) :
    Calls Yba.prog 5 #[.bool false, .slice a len cap] w fun e w' => e = .returned (.bool true) ∧ Below w.heap.size w w' := by
  have hb' : ¬ (1024 : Int) < (len : Int) := by omega
  have hn1 := neq_nn; have hn2 := neq_cn; have he1 := eql_nn
  have HC : Hid (∀ i, i < len → ∃ (b off : Nat) (v : Bool), a = some ⟨b, off, none⟩ ∧ b < w.heap.size ∧ w.cell? ⟨b, off + i, none⟩ = some (.bool v)) := hcell
  clear hcell
  go_enter Yba.func5, Yba.ntmps5
  go_wp2
  go_loop [7] (fun i => ∃ k : Nat, k ≤ len ∧ i = .int .i64 k) (fun i => len - (intOf i).toNat)
  case atStart => exact ⟨0, Nat.zero_le _, rfl⟩
  case round =>
    obtain ⟨k, hk, rfl⟩ := hrel
    by_cases hlt : k < len
    · obtain ⟨b, off, v, rfl, hbs, hc⟩ := HC.out k hlt
      have hlt' : (k : Int) < (len : Int) := by omega
      go_wp2_with (go_at_call 10; refine (decide_nil w.heap.size v _ (by simp)).mono ?_; rintro e w' ⟨rfl, rfl⟩)
      go_round
      case rel => exact ⟨k + 1, by omega, by go_num⟩
      case measure => simp [intOf]; omega
    · have hlt' : ¬ (k : Int) < (len : Int) := by omega
      go_wp2
      go_ret
      exact ⟨rfl, (Below.refl _ _).alloc (Nat.le_refl _) _⟩

theorem eql_ccB (c : Nat) (w : World) : (binOp .eql 38 (.chan (some c)) (.chan (some c))).run Yba.prog w = .ok (.bool (c == c)) w := by kernel_rfl
theorem eql_cc (c : Nat) (w : World) : (binOp .eql 38 (.chan (some c)) (.chan (some c))).run Yba.prog w = .ok (.bool true) w := by
  rw [eql_ccB]; simp
theorem bytes4 : ∃ i, Yba.prog.info? 4 = some i ∧ i.bytes = 1 := by
  have h : (Yba.prog.info? 4).map (·.bytes) = some 1 := by kernel_rfl
  obtain ⟨i, hi, hb⟩ := Option.map_eq_some_iff.1 h
  exact ⟨i, hi, hb⟩
theorem mk1 (w : World) : (Instr.makeChan 38 (.int .i64 1)).run Yba.prog w = .ok (.chan (some w.heap.size)) (w.alloc (.chan 1 #[] false 0 0 false)) := by
  obtain ⟨i, hi, hb⟩ := bytes4
  simpa using run_makeChan (P := Yba.prog) (w := w) Yba.underlying38 hi .i64 1 (by omega) (by rw [hb]; omega)

/-- the new connection's cells, its channel in its last field -/
def ccCells (p : Value) : Array Value :=
  #[.pointer none, .string ⟨#[97]⟩, .nilIface, .nilIface, .nilIface, .nilFunc, .slice none 0 0, .nilIface, .bool false, .int .u64 0, .int .i64 0, .pointer none, .chan none, .int .i32 0, .int .u32 0, .pointer none,
    .bool true, .nilIface, .bool false, .nilFunc, .pointer none, .bool false, .chan none, p]

theorem heap2 (w : World) (o C : Obj) : ((w.alloc o).alloc C).heap[w.heap.size]? = some o := by
  show ((w.heap.push o).push C)[w.heap.size]? = some o
  rw [Array.getElem?_push, if_neg (by simp), Array.getElem?_push, if_pos rfl]
theorem len0 (w : World) (C : Obj) : (Builtin.len_ #[38] 3 #[.chan (some w.heap.size)]).run Yba.prog ((w.alloc (.chan 1 #[] false 0 0 false)).alloc C) = .ok (.int .i64 0) ((w.alloc (.chan 1 #[] false 0 0 false)).alloc C) :=
  run_len_chan 38 3 Yba.underlying38 (heap2 _ _ _)

set_option maxRecDepth 100000 in
theorem walk_zero (a : Option Addr) (cap : Nat) (w : World) :
    Calls Yba.prog 5 #[.bool true, .slice a 0 cap] w fun e w' => e = .returned (.bool true) ∧ Below w.heap.size w w' := by
  have hn1 := neq_nn; have hn2 := neq_cn; have he1 := eql_nn; have he2 := eql_cc; have hmk := mk1
  have hlc := len0 w
  go_enter Yba.func5, Yba.ntmps5
  go_wp2
  go_loop [7] (fun i => i = .int .i64 0) (fun i => 0)
  case atStart => rfl
  case round =>
    subst hrel
    go_wp2
    go_ret
    exact ⟨rfl, ((Below.refl _ _).alloc (Nat.le_refl _) _).alloc (by simp) _⟩

/-- What is known of the world at the loop's head: the connection at block n + 1, its channel at block n. -/
structure At (w : World) (p : Value) (ch : Obj) (wr : World) : Prop where
  below : Below w.heap.size w wr
  size : wr.heap.size = w.heap.size + 2
  c1 : wr.cell? ⟨w.heap.size + 1, 1, none⟩ = some (.string ⟨#[97]⟩)
  c16 : wr.cell? ⟨w.heap.size + 1, 16, none⟩ = some (.bool true)
  c18 : wr.cell? ⟨w.heap.size + 1, 18, none⟩ = some (.bool false)
  c23 : wr.cell? ⟨w.heap.size + 1, 23, none⟩ = some p
  f23 : wr.frozen? ⟨w.heap.size + 1, 23, none⟩ = false
  ch : wr.heap[w.heap.size]? = some ch

theorem at_start (w : World) : At w (.chan (some w.heap.size)) (.chan 1 #[] false 0 0 false) ((w.alloc (.chan 1 #[] false 0 0 false)).alloc (.cells (ccCells (.chan (some w.heap.size))) 51)) :=
  { below := ((Below.refl _ _).alloc (Nat.le_refl _) _).alloc (by simp) _
    size := by simp
    c1 := by simp [ccCells]
    c16 := by simp [ccCells]
    c18 := by simp [ccCells]
    c23 := by simp [ccCells]
    f23 := by simp
    ch := heap2 _ _ _ }

theorem at_told {w wr : World} (v : Bool) (h : At w (.chan (some w.heap.size)) (.chan 1 #[] false 0 0 false) wr) :
    At w (.chan none) (.chan 1 #[.bool v] false 1 0 false) ((wr.setChan w.heap.size 1 #[.bool v] false 1 0 false).setCell ⟨w.heap.size + 1, 23, none⟩ (.chan none)) := by
  have hne : w.heap.size + 1 ≠ w.heap.size := by omega
  have k : ∀ o, (wr.setChan w.heap.size 1 #[.bool v] false 1 0 false).cell? ⟨w.heap.size + 1, o, none⟩ = wr.cell? ⟨w.heap.size + 1, o, none⟩ := fun o => cell_setChan _ _ _ _ _ _ _ _ _ _ hne
  refine ⟨?_, ?_, ?_, ?_, ?_, ?_, ?_, ?_⟩
  · exact (below_setChan h.below (Nat.le_refl _) _ _ _ _ _ _).setCell (by simp) _
  · rw [World.size_setCell, size_setChan, h.size]
  · rw [World.cell?_setCell_other _ _ _ _ (by simp), k, h.c1]
  · rw [World.cell?_setCell_other _ _ _ _ (by simp), k, h.c16]
  · rw [World.cell?_setCell_other _ _ _ _ (by simp), k, h.c18]
  · exact World.cell?_setCell_same _ _ _ ((k _).trans h.c23)
  · simp only [World.frozen?_setCell]; rw [frozen_setChan _ _ _ _ _ _ _ _ _ _ hne, h.f23]
  · rw [Below.heap_setCell _ _ _ _ (by simp), heap_setChan _ _ _ _ _ _ _ _ (by rw [h.size]; omega)]

theorem len1 {w wr : World} {p : Value} {v : Bool} (h : At w p (.chan 1 #[.bool v] false 1 0 false) wr) :
    (Builtin.len_ #[38] 3 #[.chan (some w.heap.size)]).run Yba.prog wr = .ok (.int .i64 1) wr :=
  run_len_chan 38 3 Yba.underlying38 h.ch

set_option maxRecDepth 100000 in
set_option maxHeartbeats 1000000 in
theorem walk_some (b off len cap : Nat) (v0 : Bool) (w : World) (hs : ¬ 1024 < len) (hpos : 0 < len) (hbs : b < w.heap.size)
    (h0 : w.cell? ⟨b, off, none⟩ = some (.bool v0))
    (hcell : ∀ i, i < len → ∃ (v : Bool), w.cell? ⟨b, off + i, none⟩ = some (.bool v)) :
    Calls Yba.prog 5 #[.bool true, .slice (some ⟨b, off, none⟩) len cap] w fun e w' => e = .returned (.bool true) ∧ Below w.heap.size w w' := by
  have hb' : ¬ (1024 : Int) < (len : Int) := by omega
  have hn1 := neq_nn; have hn2 := neq_cn; have he1 := eql_nn; have he2 := eql_cc; have hmk := mk1
  have HC : Hid (∀ i, i < len → ∃ (v : Bool), w.cell? ⟨b, off + i, none⟩ = some (.bool v)) := hcell
  have H0 : Hid (w.cell? ⟨b, off, none⟩ = some (.bool v0)) := h0
  clear hcell h0
  go_enter Yba.func5, Yba.ntmps5
  rw [stand_region 19]
  go_wp2
  go_loopw [7] (fun i wr => ∃ k : Nat, k ≤ len ∧ i = .int .i64 k ∧ (k = 0 ∧ At w (.chan (some w.heap.size)) (.chan 1 #[] false 0 0 false) wr ∨ 1 ≤ k ∧ At w (.chan none) (.chan 1 #[.bool v0] false 1 0 false) wr)) (fun i _ => len - (intOf i).toNat)
  case atStart => exact ⟨0, Nat.zero_le _, rfl, .inl ⟨rfl, at_start w⟩⟩
  case round =>
    obtain ⟨k, hk, rfl, hat⟩ := hrel
    by_cases hlt : k < len
    · have hlt' : (k : Int) < (len : Int) := by omega
      rcases hat with ⟨rfl, A⟩ | ⟨hk1, A⟩
      · have hc : wr.cell? ⟨b, off, none⟩ = some (.bool v0) := (A.below.cell (p := ⟨b, off, none⟩) hbs).trans H0.out
        have e23 := A.c23
        go_wp2_with (go_at_call 10; refine (decide_chan (w.heap.size + 1) w.heap.size v0 _ A.c23 A.f23 (by omega) A.ch).mono ?_; rintro e w' ⟨rfl, rfl⟩)
        go_roundw
        case rel => exact ⟨0 + 1, by omega, by go_num, .inr ⟨by omega, at_told v0 A⟩⟩
        case measure => simp [intOf]; omega
      · obtain ⟨v, hv⟩ := HC.out k hlt
        have hc : wr.cell? ⟨b, off + k, none⟩ = some (.bool v) := (A.below.cell (p := ⟨b, off + k, none⟩) hbs).trans hv
        have e23 := A.c23
        go_wp2_with (go_at_call 10; refine (decide_nil (w.heap.size + 1) v _ A.c23).mono ?_; rintro e w' ⟨rfl, rfl⟩)
        go_roundw
        case rel => exact ⟨k + 1, by omega, by go_num, .inr ⟨by omega, A⟩⟩
        case measure => simp [intOf]; omega
    · have hlt' : ¬ (k : Int) < (len : Int) := by omega
      rcases hat with ⟨rfl, A⟩ | ⟨hk1, A⟩
      · omega
      have hle := len1 A
      have hz : ((len : Int) == 0) = false := by simp; omega
      have e1 := A.c1; have e16 := A.c16; have e18 := A.c18; have e23 := A.c23
      have hcr : ∀ bf s r, (wr.setChan w.heap.size 1 bf false s r false).cell? ⟨b, off, none⟩ = some (.bool v0) := fun bf s r => by
        rw [cell_setChan _ _ _ _ _ _ _ _ _ _ (by omega)]
        exact (A.below.cell (p := ⟨b, off, none⟩) hbs).trans H0.out
      have hp : (0 : Int) < (len : Int) := by omega
      go_wp2
      refine wp_stand (wp_of_inReg ?_)
      simp only [List.size_toArray, List.length_cons, List.length_nil, Nat.reduceAdd, Nat.zero_add, List.range, List.range.loop]
      refine InReg.value (v := .chan (some w.heap.size)) (w' := wr) rfl rfl (by simp [go_sem]) ?_
      refine InReg.recv (c := w.heap.size) (z := .bool false) rfl rfl (by simp [go_sem, rcase, Act.put]) A.ch (by simp) ?_
      refine InReg.value (v := .bool v0) (w' := wr.setChan w.heap.size 1 #[] false 1 1 false) rfl rfl (by simp [go_sem]) ?_
      refine InReg.nil ?_
      simp only [Act.put, List.setIfInBounds_toArray]
      go_wp2
      go_ret
      exact ⟨rfl, below_setChan A.below (Nat.le_refl _) _ _ _ _ _ _⟩

theorem own : ownKnob Yba.prog.godebug = none := by kernel_rfl
theorem laidOut : laidOutB Yba.prog = true := by kernel_rfl

/-- What the walk is told of the slice that came in. -/
def IsBools (w : World) (a : Option Addr) (len cap : Nat) : Prop :=
  (a = none ∧ len = 0 ∧ cap = 0) ∨
  ∃ x, a = some x ∧ len ≤ cap ∧ cap ≤ maxLen ∧ ∀ i, i < len → ∃ v : Bool, w.cell? (x.add i) = some (.bool v)

theorem walk (h : Bool) (a : Option Addr) (len cap : Nat) (w : World) (hr : IsBools w a len cap) :
    Calls Yba.prog 5 #[.bool h, .slice a len cap] w fun e w' => e = .returned (.bool true) ∧ Below w.heap.size w w' := by
  have hm : len ≤ maxLen := by
    rcases hr with ⟨_, rfl, _⟩ | ⟨x, _, h1, h2, _⟩ <;> omega
  by_cases hbig : 1024 < len
  · exact walk_big h a len cap w hbig hm
  have key : ∀ i, i < len → ∃ (b off : Nat) (v : Bool), a = some ⟨b, off, none⟩ ∧ b < w.heap.size ∧ w.cell? ⟨b, off + i, none⟩ = some (.bool v) := by
    intro i hi
    rcases hr with ⟨_, rfl, _⟩ | ⟨⟨b, off, spot⟩, rfl, h1, h2, hc⟩
    · omega
    · obtain ⟨v0, hv0⟩ := hc 0 (by omega)
      have hspot : spot = none := by simpa [Addr.add] using World.cell?_spot hv0
      subst hspot
      obtain ⟨v, hv⟩ := hc i hi
      have hv' : w.cell? ⟨b, off + i, none⟩ = some (.bool v) := by
        rw [← hv]; congr 1; unfold Addr.add; split <;> simp_all
      refine ⟨b, off, v, rfl, ?_, hv'⟩
      exact World.block_lt_of_cell? w _ hv'
  cases h
  · exact walk_none a len cap w hbig key
  · by_cases h0 : len = 0
    · subst h0; exact walk_zero a cap w
    · obtain ⟨b, off, v0, rfl, hbs, hc0⟩ := key 0 (by omega)
      refine walk_some b off len cap v0 w hbig (by omega) hbs (by simpa using hc0) fun i hi => ?_
      obtain ⟨b', off', v, e, _, hv⟩ := key i hi
      simp only [Option.some.injEq, Addr.mk.injEq, and_true] at e
      obtain ⟨rfl, rfl⟩ := e
      exact ⟨v, hv⟩

set_option maxRecDepth 100000 in
theorem lifted (os : Os) (started : os.Started) (H : Type) (enc : TypeId × Value → H) :
    ReturnsInHanded {} Yba.checked os 5 .any (Rows.lawS5267CTellsOnceSpec.pre6 enc Yba.prog Yba.f5 Rows.lawS5267CTellsOnceRow.domain false) (Rows.lawS5267CTellsOnceSpec.post enc Yba.prog Yba.f5 false true false false) := by
  refine returnsInHanded_of_change (C := Yba.checked) own started (by kernel_rfl) Yba.func5
    (ChangeSpec.witness6 (enc := enc) (C := Yba.checked) false ⟨#[], #[.bool false, .slice none 0 0], []⟩ 8 (by kernel_rfl) (by kernel_rfl) (by kernel_rfl) (by kernel_rfl)) ?_
  intro W base args ds gs before hval0 hW hcnd _
  have hval : ∀ (j : Nat) t v, Yba.f5.params[j]? = some t → args[j]? = some v → Value.okWide Yba.prog W .any base t v := hval0
  have hW' := hW
  obtain ⟨p, q, hA0, hV, rfl, hfz, hnd⟩ := hW
  have hA : DataW.TrodAll enc Yba.prog W 0 (fun _ => true) true Yba.f5.params.toList args.toList ds p := hA0
  rw [Yba.params5] at hA hval
  obtain ⟨v0, vs0, d0, ds0, p0, q0, hargs, rfl, rfl, h0, r0⟩ := trodAll_cons hA
  obtain ⟨v1, vs1, d1, ds1, p1, q1, rfl, rfl, rfl, h1, r1⟩ := trodAll_cons r0
  obtain ⟨rfl, rfl, rfl⟩ := trodAll_nil r1
  obtain rfl : args = #[v0, v1] := by cases args; simp_all
  obtain ⟨rfl, rfl⟩ := trodVars_none hV
  obtain ⟨b0, rfl, rfl, rfl⟩ := open_bool Yba.underlying4 (hval 0 4 v0 rfl rfl) h0
  obtain ⟨a1, len1, cap1, rfl⟩ := okWide_slice Yba.underlying54 (hval 1 54 v1 rfl rfl)
  have k1 := h1
  have lt1 : ∀ x ∈ p1, x.block < W.heap.size := by obtain ⟨m, hm⟩ := k1; exact DataW.trod_lt m _ _ _ hm
  have w1 : IsBools W a1 len1 cap1 := by
    obtain ⟨fuel, hf⟩ := h1
    rcases Go.Deep.open_slice1 Yba.underlying54 (by kernel_rfl) hf with ⟨hcs, _⟩ | ⟨x, l, c, m, n, V, D, Pl, hcs, _, hl, hm, hmm, _, hcell⟩
    · simp [Value.cells] at hcs
      obtain ⟨rfl, rfl, rfl⟩ := hcs
      exact .inl ⟨rfl, rfl, rfl⟩
    · simp [Value.cells] at hcs
      obtain ⟨rfl, rfl, rfl⟩ := hcs
      refine .inr ⟨_, rfl, hl, hm, fun i hi => ?_⟩
      have hi' : i < m := by rw [hmm]; simp; omega
      obtain ⟨hc, ht⟩ := hcell i hi'
      obtain ⟨v, hv, _⟩ := DataW.trod_bool Yba.underlying4 ht
      simp at hv
      exact ⟨v, by rw [hc, hv]⟩
  clear hA0 hval0
  refine (walk b0 a1 len1 cap1 W w1).mono fun e W' ⟨he, bel⟩ => ?_
  subst he
  exact ⟨_, rfl, _, _, _, [], _, [], hW', trodAll_mk1 (shut_bool Yba.underlying4 _), (trodAll_cons_mk (shut_bool Yba.underlying4 _) (trodAll_cons_mk (Below.trod laidOut (by kernel_rfl) (of_decide_eq_true (by kernel_rfl)) k1 bel lt1) trodAll_mk0)), rfl, bel.frame _, fun h => by cases h⟩

theorem over : Rows.lawS5267CTellsOnceRow.holds Yba.pinned (OpenSpec.ofChange Rows.lawS5267CTellsOnceSpec) :=
  OpenClaim.holds_of_wide 5 Yba.f5 rfl rfl rfl rfl rfl rfl rfl ⟨rfl, rfl, rfl, rfl, rfl⟩ rfl rfl rfl rfl rfl (by kernel_rfl) Yba.func5 (by kernel_rfl)
    (of_decide_eq_true (by kernel_rfl)) (by unfold Func.isWrapper; first | (rw [if_pos (by decide +kernel)]; kernel_rfl) | (rw [if_neg (by decide +kernel)]; exact ⟨rfl, rfl⟩))
    (fun os started H enc _ => lifted os started H enc)

/-- THE STATEMENT -/
theorem proved : Rows.LawS5267CTellsOnceSaid := over
end Go.Proofs.Ybulkdebc.lawS5267CTellsOnce
