/-
  The contracts of key, bytes.Equal and bytes.Clone; append onto a row, at each of the four element types.
-/
import Derived.Test.YbulkddveRows
import Derived.Test.YbulkddveOwn
import Derived.WalkKit
import Derived.WalkLawsBesides
import Derived.WalkSpells
import Derived.ProofKit
import Derived.Deep.QuietTactic
import Derived.BigQuiet
namespace Go.Proofs.Ybulkddve.Parts
open Go.ChangeShapes Go.WideShapes Go.ChangeAt Go.RowKit Own
set_option maxRecDepth 100000

set_option maxHeartbeats 800000 in
theorem key_some (S g n c at' en : Nat) (p q d : Int) (w : World) (hS : w.cell? ⟨S, 1, none⟩ = some (.slice (some ⟨g, 0, none⟩) n c)) (lt : S < w.heap.size) (h1 : at' ≤ en) (h2 : en ≤ n) (h3 : n ≤ c) :
    Calls Yba.prog 7 #[.pointer (some ⟨S, 0, none⟩), .agg #[.int .i64 at', .int .i64 en, .int .u32 p, .int .u16 q, .int .i64 d]] w fun e w' =>
      ∃ o : Nat, e = .returned (.slice (some ⟨g, o, none⟩) (en - at') (en - at')) ∧ (at' < en → o = at') ∧ ∃ nq, w' = (w.alloc (.cells #[.int .i64 at', .int .i64 en, .int .u32 p, .int .u16 q, .int .i64 d] 38)).drewN nq := by
  have k1 : ∀ o, (w.alloc o).cell? ⟨S, 1, none⟩ = some (.slice (some ⟨g, 0, none⟩) n c) := fun o => (World.cell?_alloc_past o S 1 lt).trans hS
  have b1 : (at' : Int) ≤ (en : Int) := by omega
  have b2 : (en : Int) ≤ (n : Int) := by omega
  have b3 : (en : Int) ≤ (c : Int) := by omega
  have b4 : (0 : Int) ≤ (at' : Int) := by omega
  go_enter Yba.func7, Yba.ntmps7
  go_wp2
  go_quiet (fail)
  go_wp2
  all_goals
    go_ret
    first | exact ⟨_, rfl, fun _ => rfl, _, rfl⟩ | exact ⟨⟨_, rfl⟩, _, rfl⟩

set_option maxHeartbeats 800000 in
theorem key_nil (S : Nat) (p q d : Int) (w : World) (hS : w.cell? ⟨S, 1, none⟩ = some (.slice none 0 0)) (lt : S < w.heap.size) :
    Calls Yba.prog 7 #[.pointer (some ⟨S, 0, none⟩), .agg #[.int .i64 0, .int .i64 0, .int .u32 p, .int .u16 q, .int .i64 d]] w fun e w' =>
      ∃ nq, e = .returned (.slice none 0 0) ∧ w' = (w.alloc (.cells #[.int .i64 0, .int .i64 0, .int .u32 p, .int .u16 q, .int .i64 d] 38)).drewN nq := by
  have k1 : ∀ o, (w.alloc o).cell? ⟨S, 1, none⟩ = some (.slice none 0 0) := fun o => (World.cell?_alloc_past o S 1 lt).trans hS
  have hsl : ∀ w, (Instr.slice 23 (.slice none 0 0) (some (.int .i64 0)) (some (.int .i64 0)) (some (.int .i64 0))).run Yba.prog w = .ok (.slice none 0 0) w := fun w => by kernel_rfl
  go_enter Yba.func7, Yba.ntmps7
  go_wp2
  go_quiet (fail)
  go_wp2
  all_goals
    go_ret
    exact ⟨_, rfl, rfl⟩

/-- a slice of bytes that lies in memory -/
def Lies (w : World) (v : Value) (xs : List Int) : Prop :=
  (v = .slice none 0 0 ∧ xs = []) ∨ ∃ b off c, v = .slice (some ⟨b, off, none⟩) xs.length c ∧ ∀ i, i < xs.length → w.cell? ⟨b, off + i, none⟩ = some (.int .u8 (xs.getD i 0))

theorem convert_lies {w : World} {v : Value} {xs : List Int} (h : Lies w v xs) : (convert 23 9 v).run Yba.prog w = .ok (.string (strOfNums xs)) w := by
  rcases h with ⟨rfl, rfl⟩ | ⟨b, off, c, rfl, hc⟩
  · kernel_rfl
  · exact run_convert_bytes_arg w 23 5 Yba.underlying23 Yba.underlying5 b off xs.length c xs rfl hc 9 Yba.underlying9

theorem equal_same (v u : Value) (xs : List Int) (w : World) (hv : Lies w v xs) (hu : Lies w u xs) :
    Calls Yba.prog 6 #[v, u] w fun e w' => e = .returned (.bool true) ∧ w' = w := by
  have h1 := convert_lies hv
  have h2 := convert_lies hu
  go_enter Yba.func6, Yba.ntmps6
  go_wp2
  go_ret
  exact ⟨rfl, rfl⟩

theorem clone_nil (w : World) : Calls Yba.prog 4 #[.slice none 0 0] w fun e w' => e = .returned (.slice none 0 0) ∧ w' = w := by
  have hq : ∀ w, (binOp .eql 23 (.slice none 0 0) (.slice none 0 0)).run Yba.prog w = .ok (.bool true) w := fun w => by kernel_rfl
  go_enter Yba.func4, Yba.ntmps4
  go_wp2
  go_ret
  exact ⟨rfl, rfl⟩


theorem info (t : TypeId) (z : Value) (a b : Nat) (h : (Yba.prog.info? t).map (fun i => (i.zero, i.size, i.bytes)) = some (some z, a, b)) : ∃ i, Yba.prog.info? t = some i ∧ i.zero = some z ∧ i.size = a ∧ i.bytes = b := by
  obtain ⟨i, hi, hb⟩ := Option.map_eq_some_iff.1 h
  simp only [Prod.mk.injEq] at hb
  exact ⟨i, hi, hb.1, hb.2.1, hb.2.2⟩
theorem info5 : ∃ i, Yba.prog.info? 5 = some i ∧ i.zero = some (.int .u8 0) ∧ i.size = 1 ∧ i.bytes = 1 := info 5 _ _ _ (by kernel_rfl)
theorem info3 : ∃ i, Yba.prog.info? 3 = some i ∧ i.zero = some (.int .i64 0) ∧ i.size = 1 ∧ i.bytes = 8 := info 3 _ _ _ (by kernel_rfl)
theorem info29 : ∃ i, Yba.prog.info? 29 = some i ∧ i.zero = some (.slice none 0 0) ∧ i.size = 1 ∧ i.bytes = 24 := info 29 _ _ _ (by kernel_rfl)
theorem info38 : ∃ i, Yba.prog.info? 38 = some i ∧ i.zero = some (.agg #[.int .i64 0, .int .i64 0, .int .u32 0, .int .u16 0, .int .i64 0]) ∧ i.size = 5 ∧ i.bytes = 32 := info 38 _ _ _ (by kernel_rfl)

theorem app23 {w : World} {ops : Array Oper} {rest : List Oper} {o : Oper} {a : Act} {Q : Exit → Act → World → Prop} (hgd : o.guard = none) (s x : Operand)
    (ho : o.op = .call { callee := .builtin .append, args := #[s, x], argTypes := #[23, 23] }) (N S : Nat) (v : Value) (n : Nat) (xs : List Value) (l : List Rw) (hs : a.eval s = v) (hrows : Rws w N S (⟨5, 1, v, n, xs⟩ :: l))
    (u : Value) (m : Nat) (ys : List Value) (hx : a.eval x = u) (hsrc : Src w 1 u m ys) (hb : n + m ≤ 4194304)
    (h : ∀ v' w', Rws w' N S (⟨5, 1, v', n + m, xs ++ ys⟩ :: l) → w.grownBy w' v.ownBlock → wpList Yba.prog ops Q rest (a.put o.dst v') w') : wpList Yba.prog ops Q (o :: rest) a w := by
  obtain ⟨i, hi, hz, hsz, hby⟩ := info5
  exact wpList_app hgd s x 23 ho N S 5 i (.int .u8 0) 1 1 Yba.underlying23 hi hz hsz hby rfl (by decide) v n xs l hs hrows u m ys hx hsrc (by unfold maxLen; omega) (by omega) h
theorem app30 {w : World} {ops : Array Oper} {rest : List Oper} {o : Oper} {a : Act} {Q : Exit → Act → World → Prop} (hgd : o.guard = none) (s x : Operand)
    (ho : o.op = .call { callee := .builtin .append, args := #[s, x], argTypes := #[30, 30] }) (N S : Nat) (v : Value) (n : Nat) (xs : List Value) (l : List Rw) (hs : a.eval s = v) (hrows : Rws w N S (⟨3, 1, v, n, xs⟩ :: l))
    (u : Value) (m : Nat) (ys : List Value) (hx : a.eval x = u) (hsrc : Src w 1 u m ys) (hb : n + m ≤ 4194304)
    (h : ∀ v' w', Rws w' N S (⟨3, 1, v', n + m, xs ++ ys⟩ :: l) → w.grownBy w' v.ownBlock → wpList Yba.prog ops Q rest (a.put o.dst v') w') : wpList Yba.prog ops Q (o :: rest) a w := by
  obtain ⟨i, hi, hz, hsz, hby⟩ := info3
  exact wpList_app hgd s x 30 ho N S 3 i (.int .i64 0) 1 8 Yba.underlying30 hi hz hsz hby rfl (by decide) v n xs l hs hrows u m ys hx hsrc (by unfold maxLen; omega) (by omega) h
theorem app26 {w : World} {ops : Array Oper} {rest : List Oper} {o : Oper} {a : Act} {Q : Exit → Act → World → Prop} (hgd : o.guard = none) (s x : Operand)
    (ho : o.op = .call { callee := .builtin .append, args := #[s, x], argTypes := #[26, 26] }) (N S : Nat) (v : Value) (n : Nat) (xs : List Value) (l : List Rw) (hs : a.eval s = v) (hrows : Rws w N S (⟨29, 1, v, n, xs⟩ :: l))
    (u : Value) (m : Nat) (ys : List Value) (hx : a.eval x = u) (hsrc : Src w 1 u m ys) (hb : n + m ≤ 4194304)
    (h : ∀ v' w', Rws w' N S (⟨29, 1, v', n + m, xs ++ ys⟩ :: l) → w.grownBy w' v.ownBlock → wpList Yba.prog ops Q rest (a.put o.dst v') w') : wpList Yba.prog ops Q (o :: rest) a w := by
  obtain ⟨i, hi, hz, hsz, hby⟩ := info29
  exact wpList_app hgd s x 26 ho N S 29 i (.slice none 0 0) 1 24 Yba.underlying26 hi hz hsz hby rfl (by decide) v n xs l hs hrows u m ys hx hsrc (by unfold maxLen; omega) (by omega) h
theorem app29 {w : World} {ops : Array Oper} {rest : List Oper} {o : Oper} {a : Act} {Q : Exit → Act → World → Prop} (hgd : o.guard = none) (s x : Operand)
    (ho : o.op = .call { callee := .builtin .append, args := #[s, x], argTypes := #[29, 29] }) (N S : Nat) (v : Value) (n : Nat) (xs : List Value) (l : List Rw) (hs : a.eval s = v) (hrows : Rws w N S (⟨38, 5, v, n, xs⟩ :: l))
    (u : Value) (m : Nat) (ys : List Value) (hx : a.eval x = u) (hsrc : Src w 5 u m ys) (hb : n + m ≤ 4194304)
    (h : ∀ v' w', Rws w' N S (⟨38, 5, v', n + m, xs ++ ys⟩ :: l) → w.grownBy w' v.ownBlock → wpList Yba.prog ops Q rest (a.put o.dst v') w') : wpList Yba.prog ops Q (o :: rest) a w := by
  obtain ⟨i, hi, hz, hsz, hby⟩ := info38
  exact wpList_app hgd s x 29 ho N S 38 i (.agg #[.int .i64 0, .int .i64 0, .int .u32 0, .int .u16 0, .int .i64 0]) 5 32 Yba.underlying29 hi hz hsz hby rfl (by decide) v n xs l hs hrows u m ys hx hsrc (by unfold maxLen; omega) (by omega) h

/-- a row of bytes of the call's own, read as bytes -/
theorem lies_of_own {w : World} {N : Nat} {v : Value} {xs : List Int} (h : w.ownsRow N 5 1 v xs.length (xs.map (Value.int .u8))) : Lies w v xs := by
  obtain ⟨hl, hc⟩ := h
  rcases hc with ⟨rfl, h0⟩ | ⟨g, cap, cur, rfl, hb, hg, hn, hm, hs, ht⟩
  · exact .inl ⟨rfl, List.length_eq_zero_iff.1 h0⟩
  · refine .inr ⟨g, 0, cap, rfl, fun i hi => ?_⟩
    simp only [World.cell?, hg, Nat.zero_add]
    have e : (cur.toList.take (xs.length * 1))[i]? = (xs.map (Value.int .u8))[i]? := by rw [ht]
    rw [List.getElem?_take, if_pos (by omega)] at e
    simp [hi] at e
    simp [e, hi, List.getD]

theorem clone_some (b off c : Nat) (xs : List Int) (w : World) (hc : ∀ i, i < xs.length → w.cell? ⟨b, off + i, none⟩ = some (.int .u8 (xs.getD i 0))) (hlen : xs.length ≤ 4194304) :
    Calls Yba.prog 4 #[.slice (some ⟨b, off, none⟩) xs.length c] w fun e w' => ∃ v', e = .returned v' ∧ Lies w' v' xs ∧ Below w.heap.size w w' := by
  have hq : ∀ w, (binOp .eql 23 (.slice (some ⟨b, off, none⟩) xs.length c) (.slice none 0 0)).run Yba.prog w = .ok (.bool false) w := fun w => by kernel_rfl
  obtain ⟨i5, hi, hz, hsz, hby⟩ := info5
  have hnews : ∀ (o : Obj) j u, (xs.map (Value.int .u8))[j]? = some u → (w.alloc o).cell? ((⟨b, off, none⟩ : Addr).add j) = some u := by
    intro o j u hj
    rw [List.getElem?_map] at hj
    have hjl : j < xs.length := by
      by_cases hjl : j < xs.length
      · exact hjl
      · rw [List.getElem?_eq_none (by omega)] at hj; simp at hj
    have h0 := hc j hjl
    rw [List.getElem?_eq_getElem hjl] at hj
    simp at hj
    have ad : (⟨b, off, none⟩ : Addr).add j = ⟨b, off + j, none⟩ := by unfold Addr.add; split <;> simp_all
    rw [ad, World.cell?_alloc_past o b (off + j) (World.block_lt_of_cell? w _ h0), h0, ← hj]
    simp [List.getD, hjl]
  have hown := World.ownsRow_made (base := w.heap.size) (e := 5) (size := 1) w #[] 0 (Nat.le_refl _) (by unfold maxLen; omega) rfl
  go_enter Yba.func4, Yba.ntmps4
  go_wp2_with (at_builtin; refine wpList_append_own_at _ rfl _ _ 23 rfl w.heap.size 5 i5 (.int .u8 0) 1 1 Yba.underlying23 hi hz hsz hby rfl (by decide) _ 0 [] rfl hown ⟨b, off, none⟩ xs.length c (xs.map (Value.int .u8)) rfl (by simp) (hnews _) (fun u hu => by simp at hu; obtain ⟨y, _, rfl⟩ := hu; rfl) (by unfold maxLen; omega) (by omega) (by simp) ?_; intro v' w3 hown3 hg3 hnil3 hat3)
  go_ret
  refine ⟨_, rfl, lies_of_own (by simpa using hown3), ?_⟩
  have h1 : Below w.heap.size w (w.alloc (.cells #[] 5)) := (Below.refl _ _).alloc (Nat.le_refl _) _
  refine h1.trans ⟨hg3.os, hg3.tape, hg3.output, hg3.size, fun k hk => hg3.block k (by simp; omega) (fun e => ?_)⟩
  have e' : k = w.heap.size := Option.some.inj e
  omega

theorem clone_any (v : Value) (xs : List Int) (w : World) (h : Lies w v xs) (hlen : xs.length ≤ 4194304) :
    Calls Yba.prog 4 #[v] w fun e w' => ∃ v', e = .returned v' ∧ Lies w' v' xs ∧ Below w.heap.size w w' := by
  rcases h with ⟨rfl, rfl⟩ | ⟨b, off, c, rfl, hc⟩
  · exact (clone_nil w).mono fun e w' ⟨he, hw⟩ => ⟨_, he, .inl ⟨rfl, rfl⟩, hw ▸ Below.refl _ _⟩
  · exact clone_some b off c xs w hc hlen
end Go.Proofs.Ybulkddve.Parts
