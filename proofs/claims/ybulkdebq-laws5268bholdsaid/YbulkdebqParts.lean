/-
  The contracts of IsZero, of the two comparisons of slices and of (*Lock).hold.
-/
import Derived.Test.YbulkdebqRows
import Derived.Test.YbulkdebqLocks
import Derived.Test.YbulkdebqTimeAdd
import Derived.Conc.MuLone
import Derived.WalkKit
import Derived.WalkLawsBesides
import Derived.WalkSmall
import Derived.WalkSpells
import Derived.ProofKit
import Derived.Deep.QuietTactic
import Derived.BigQuiet
import Derived.LaidEqlPtr
namespace Go.Proofs.Ybulkdebq.Parts
open Go.ChangeShapes Go.WideShapes Go.ChangeAt Go.RowKit Go.MuLone TimeAdd

/-- whether the two numbers of a time are both nought -/
def zeroB (x y : Int) : Bool := (x == 0) && (y == 0)

theorem isZero_any (x y : Int) (w : World) :
    Calls Yba.prog 5 #[.agg #[.int .u64 x, .int .i64 y, .pointer none]] w fun e w' => e = .returned (.bool (zeroB x y)) ∧ w' = w.alloc (.cells #[.int .u64 x, .int .i64 y, .pointer none] 26) := by
  by_cases h : x = 0
  · subst h
    have e : zeroB 0 y = (y == 0) := by simp [zeroB]
    rw [e]
    go_enter Yba.func5, Yba.ntmps5
    go_wp2
    go_ret
    exact ⟨rfl, rfl⟩
  · have hx : (x == 0) = false := by simpa using h
    have e : zeroB x y = false := by simp [zeroB, hx]
    rw [e]
    go_enter Yba.func5, Yba.ntmps5
    go_wp2
    go_ret
    exact ⟨rfl, rfl⟩

theorem room48 : ∃ j, Yba.prog.info? 48 = some j := Option.isSome_iff_exists.1 (by kernel_rfl)
theorem room49 : ∃ j, Yba.prog.info? 49 = some j := Option.isSome_iff_exists.1 (by kernel_rfl)
theorem neq61 (a : Addr) (w : World) : (binOp .neq 61 (.pointer (some a)) (.pointer (some a))).run Yba.prog w = .ok (.bool false) w := by
  obtain ⟨j, hj⟩ := room48
  have h : ∀ d : Nat, (Op.equalIn (d + 1) 61 (.pointer (some a)) (.pointer (some a))).run Yba.prog w = .ok true w := fun d => by
    simp [Op.equalIn, run_underlying Yba.underlying61, sizeOf, typeInfo, hj, run_sameAddr_same]
  simp only [binOp]
  simp [Op.equal, Op.maxDepth, h 9999]
theorem neq62 (a : Addr) (w : World) : (binOp .neq 62 (.pointer (some a)) (.pointer (some a))).run Yba.prog w = .ok (.bool false) w := by
  obtain ⟨j, hj⟩ := room49
  have h : ∀ d : Nat, (Op.equalIn (d + 1) 62 (.pointer (some a)) (.pointer (some a))).run Yba.prog w = .ok true w := fun d => by
    simp [Op.equalIn, run_underlying Yba.underlying62, sizeOf, typeInfo, hj, run_sameAddr_same]
  simp only [binOp]
  simp [Op.equal, Op.maxDepth, h 9999]
theorem eql38 (a : Option Addr) (n c : Nat) (w : World) : (binOp .eql 38 (.slice a n c) (.slice none 0 0)).run Yba.prog w = .ok (.bool a.isNone) w := by
  cases a <;> kernel_rfl
theorem eql39 (a : Option Addr) (n c : Nat) (w : World) : (binOp .eql 39 (.slice a n c) (.slice none 0 0)).run Yba.prog w = .ok (.bool a.isNone) w := by
  cases a <;> kernel_rfl

set_option maxRecDepth 100000 in
theorem nodes_empty (a : Option Addr) (c : Nat) (w : World) :
    Calls Yba.prog 7 #[.slice a 0 c, .slice a 0 c] w fun e w' => e = .returned (.bool true) ∧ ∃ nq, w' = w.drewN nq := by
  have q := eql38
  have hd : decide ((0 : Int) < 0) = false := rfl
  go_enter Yba.func7, Yba.ntmps7
  go_wp2
  go_quiet (fail)
  go_wp2
  go_ret
  exact ⟨rfl, _, rfl⟩
set_option maxRecDepth 100000 in
theorem nodes_some (b o n c : Nat) (w : World) (hn : 0 < n) :
    Calls Yba.prog 7 #[.slice (some ⟨b, o, none⟩) n c, .slice (some ⟨b, o, none⟩) n c] w fun e w' => e = .returned (.bool true) ∧ ∃ nq, w' = w.drewN nq := by
  have q := eql38; have q1 := neq61
  have hl : (0 : Int) < (n : Int) := by omega
  go_enter Yba.func7, Yba.ntmps7
  go_wp2
  go_quiet (fail)
  go_wp2
  go_ret
  exact ⟨rfl, _, rfl⟩
set_option maxRecDepth 100000 in
theorem reqs_empty (a : Option Addr) (c : Nat) (w : World) :
    Calls Yba.prog 8 #[.slice a 0 c, .slice a 0 c] w fun e w' => e = .returned (.bool true) ∧ ∃ nq, w' = w.drewN nq := by
  have q := eql39
  have hd : decide ((0 : Int) < 0) = false := rfl
  go_enter Yba.func8, Yba.ntmps8
  go_wp2
  go_quiet (fail)
  go_wp2
  go_ret
  exact ⟨rfl, _, rfl⟩
set_option maxRecDepth 100000 in
theorem reqs_some (b o n c : Nat) (w : World) (hn : 0 < n) :
    Calls Yba.prog 8 #[.slice (some ⟨b, o, none⟩) n c, .slice (some ⟨b, o, none⟩) n c] w fun e w' => e = .returned (.bool true) ∧ ∃ nq, w' = w.drewN nq := by
  have q := eql39; have q1 := neq62
  have hl : (0 : Int) < (n : Int) := by omega
  go_enter Yba.func8, Yba.ntmps8
  go_wp2
  go_quiet (fail)
  go_wp2
  go_ret
  exact ⟨rfl, _, rfl⟩

theorem nodes_same (a : Option Addr) (n c : Nat) (w : World) (h : n = 0 ∨ ∃ b o, a = some ⟨b, o, none⟩) :
    Calls Yba.prog 7 #[.slice a n c, .slice a n c] w fun e w' => e = .returned (.bool true) ∧ ∃ nq, w' = w.drewN nq := by
  rcases Nat.eq_zero_or_pos n with h0 | h0
  · subst h0; exact nodes_empty a c w
  · rcases h with h | ⟨b, o, rfl⟩
    · omega
    · exact nodes_some b o n c w h0
theorem reqs_same (a : Option Addr) (n c : Nat) (w : World) (h : n = 0 ∨ ∃ b o, a = some ⟨b, o, none⟩) :
    Calls Yba.prog 8 #[.slice a n c, .slice a n c] w fun e w' => e = .returned (.bool true) ∧ ∃ nq, w' = w.drewN nq := by
  rcases Nat.eq_zero_or_pos n with h0 | h0
  · subst h0; exact reqs_empty a c w
  · rcases h with h | ⟨b, o, rfl⟩
    · omega
    · exact reqs_some b o n c w h0

/-- A lock at block L, its mutex free. -/
structure Lk (w : World) (L : Nat) (ax ay : Int) : Prop where
  lt : L < w.heap.size
  c0 : w.cell? ⟨L, 0, none⟩ = some (.pointer none)
  c1 : w.cell? ⟨L, 1, none⟩ = some (.string ⟨#[122, 122]⟩)
  c2 : w.cell? ⟨L, 2, none⟩ = some (.string ⟨#[116, 107]⟩)
  c5 : w.cell? ⟨L, 5, none⟩ = some (.int .i32 0)
  c7 : w.cell? ⟨L, 7, none⟩ = some (.int .u64 ax)
  c8 : w.cell? ⟨L, 8, none⟩ = some (.int .i64 ay)
  c9 : w.cell? ⟨L, 9, none⟩ = some (.pointer none)
  room : ∀ o, o < 17 → ∃ v, w.cell? ⟨L, o, none⟩ = some v
  fz : ∀ o, w.frozen? ⟨L, o, none⟩ = false

/-- What it holds of the last call of 'hold'. -/
structure Held (w : World) (L : Nat) (sx sy v e : Int) (ns rs : Value) : Prop where
  c10 : w.cell? ⟨L, 10, none⟩ = some (.int .u64 sx)
  c11 : w.cell? ⟨L, 11, none⟩ = some (.int .i64 sy)
  c12 : w.cell? ⟨L, 12, none⟩ = some (.pointer none)
  c13 : w.cell? ⟨L, 13, none⟩ = some (.int .i64 v)
  c14 : w.cell? ⟨L, 14, none⟩ = some (.int .i64 e)
  c15 : w.cell? ⟨L, 15, none⟩ = some ns
  c16 : w.cell? ⟨L, 16, none⟩ = some rs

/-- several stores into one block -/
def puts (w : World) (L : Nat) (l : List (Nat × Value)) : World := l.foldl (fun w p => w.setCell ⟨L, p.1, none⟩ p.2) w
def look (l : List (Nat × Value)) (o : Nat) (d : Option Value) : Option Value := l.foldl (fun acc p => if p.1 = o then some p.2 else acc) d

theorem look_some (o : Nat) (l : List (Nat × Value)) : ∀ u : Value, ∃ v, look l o (some u) = some v := by
  induction l with
  | nil => intro u; exact ⟨u, rfl⟩
  | cons p l ih =>
    intro u
    show ∃ v, look l o (if p.1 = o then some p.2 else some u) = some v
    split
    · exact ih _
    · exact ih _

theorem puts_cell (L : Nat) (l : List (Nat × Value)) : ∀ w : World, (∀ p ∈ l, ∃ v, w.cell? ⟨L, p.1, none⟩ = some v) → ∀ o, (puts w L l).cell? ⟨L, o, none⟩ = look l o (w.cell? ⟨L, o, none⟩) := by
  induction l with
  | nil => intro w _ o; rfl
  | cons p l ih =>
    intro w h o
    obtain ⟨v, hv⟩ := h p (List.mem_cons_self ..)
    have key : ∀ i, (w.setCell ⟨L, p.1, none⟩ p.2).cell? ⟨L, i, none⟩ = if p.1 = i then some p.2 else w.cell? ⟨L, i, none⟩ := by
      intro i
      by_cases e : p.1 = i
      · subst e; rw [if_pos rfl]; exact World.cell?_setCell_same w _ _ hv
      · rw [if_neg e]; exact World.cell?_setCell_other _ _ _ _ (fun x => e (by injection x))
    show (puts (w.setCell ⟨L, p.1, none⟩ p.2) L l).cell? ⟨L, o, none⟩ = look l o (if p.1 = o then some p.2 else w.cell? ⟨L, o, none⟩)
    rw [ih (w.setCell ⟨L, p.1, none⟩ p.2) (fun q hq => by
      rw [key]
      by_cases e : p.1 = q.1
      · rw [if_pos e]; exact ⟨_, rfl⟩
      · rw [if_neg e]; exact h q (List.mem_cons_of_mem _ hq)) o, key]
theorem puts_other (L : Nat) (l : List (Nat × Value)) : ∀ (w : World) b o, b ≠ L → (puts w L l).cell? ⟨b, o, none⟩ = w.cell? ⟨b, o, none⟩ := by
  induction l with
  | nil => intro w b o _; rfl
  | cons p l ih =>
    intro w b o hb
    show (puts (w.setCell ⟨L, p.1, none⟩ p.2) L l).cell? ⟨b, o, none⟩ = _
    rw [ih _ b o hb, World.cell?_setCell_other _ _ _ _ (fun x => hb (by injection x with x1; exact x1.symm))]
theorem puts_frozen (L : Nat) (l : List (Nat × Value)) : ∀ (w : World) a, (puts w L l).frozen? a = w.frozen? a := by
  induction l with
  | nil => intro w a; rfl
  | cons p l ih =>
    intro w a
    show (puts (w.setCell ⟨L, p.1, none⟩ p.2) L l).frozen? a = _
    rw [ih]; simp
theorem puts_size (L : Nat) (l : List (Nat × Value)) : ∀ (w : World), (puts w L l).heap.size = w.heap.size := by
  induction l with
  | nil => intro w; rfl
  | cons p l ih =>
    intro w
    show (puts (w.setCell ⟨L, p.1, none⟩ p.2) L l).heap.size = _
    rw [ih]; simp
theorem puts_below (N L : Nat) (hN : N ≤ L) (l : List (Nat × Value)) : ∀ (w0 w : World), Below N w0 w → Below N w0 (puts w L l) := by
  induction l with
  | nil => intro _ _ h; exact h
  | cons p l ih => intro w0 w h; exact ih _ _ (h.setCell hN _)

/-- the world behind 'hold' -/
def after (w : World) (L : Nat) (l : List (Nat × Value)) (o1 o2 : Obj) : World := (((puts w L l).alloc o1).alloc o2).setCell ⟨L, 5, none⟩ (.int .i32 0)

theorem after_cell (w : World) (L : Nat) (l : List (Nat × Value)) (o1 o2 : Obj) (lt : L < w.heap.size) (h : ∀ p ∈ l, ∃ v, w.cell? ⟨L, p.1, none⟩ = some v) (o : Nat) (ho : o ≠ 5) :
    (after w L l o1 o2).cell? ⟨L, o, none⟩ = look l o (w.cell? ⟨L, o, none⟩) := by
  have l1 := puts_size L l w
  unfold after
  rw [World.cell?_setCell_other _ _ _ _ (fun x => ho (by injection x with _ x2; exact x2.symm)), World.cell?_alloc_past o2 L o (by simp; omega), World.cell?_alloc_past o1 L o (by omega), puts_cell L l w h o]
theorem after_c5 (w : World) (L : Nat) (l : List (Nat × Value)) (o1 o2 : Obj) (lt : L < w.heap.size) (h : ∀ p ∈ l, ∃ v, w.cell? ⟨L, p.1, none⟩ = some v) (u : Value) (hu : look l 5 (w.cell? ⟨L, 5, none⟩) = some u) :
    (after w L l o1 o2).cell? ⟨L, 5, none⟩ = some (.int .i32 0) := by
  have l1 := puts_size L l w
  unfold after
  refine World.cell?_setCell_same (u := u) _ _ _ ?_
  rw [World.cell?_alloc_past o2 L 5 (by simp; omega), World.cell?_alloc_past o1 L 5 (by omega), puts_cell L l w h 5, hu]
theorem after_other (w : World) (L : Nat) (l : List (Nat × Value)) (o1 o2 : Obj) (b o : Nat) (hb : b ≠ L) (lt : b < w.heap.size) :
    (after w L l o1 o2).cell? ⟨b, o, none⟩ = w.cell? ⟨b, o, none⟩ := by
  have l1 := puts_size L l w
  unfold after
  rw [World.cell?_setCell_other _ _ _ _ (fun x => hb (by injection x with x1; exact x1.symm)), World.cell?_alloc_past o2 b o (by simp; omega), World.cell?_alloc_past o1 b o (by omega), puts_other L l w b o hb]
theorem after_frozen (w : World) (L : Nat) (l : List (Nat × Value)) (o1 o2 : Obj) (b o : Nat) (lt : b < w.heap.size) :
    (after w L l o1 o2).frozen? ⟨b, o, none⟩ = w.frozen? ⟨b, o, none⟩ := by
  have l1 := puts_size L l w
  unfold after
  rw [World.frozen?_setCell, World.frozen?_alloc_past o2 b o (by simp; omega), World.frozen?_alloc_past o1 b o (by omega), puts_frozen]
theorem after_below (N : Nat) (w : World) (L : Nat) (l : List (Nat × Value)) (o1 o2 : Obj) (hN : N ≤ L) (lt : L < w.heap.size) : Below N w (after w L l o1 o2) := by
  have l1 := puts_size L l w
  exact (((puts_below N L hN l w w (Below.refl _ _)).alloc (by omega) _).alloc (by simp; omega) _).setCell hN _
theorem after_size (w : World) (L : Nat) (l : List (Nat × Value)) (o1 o2 : Obj) : w.heap.size < (after w L l o1 o2).heap.size := by
  have l1 := puts_size L l w
  unfold after
  simp; omega

/-- What 'hold' leaves: the lock with the time 'acquired', all that the call gave, all other blocks as they were. -/
structure HoldPost (w w' : World) (L : Nat) (ax ay sx sy v e : Int) (ns rs : Value) : Prop where
  lk : Lk w' L ax ay
  held : Held w' L sx sy v e ns rs
  other : ∀ b o, b ≠ L → b < w.heap.size → w'.cell? ⟨b, o, none⟩ = w.cell? ⟨b, o, none⟩
  otherF : ∀ b o, b < w.heap.size → w'.frozen? ⟨b, o, none⟩ = w.frozen? ⟨b, o, none⟩
  below : ∀ N, N ≤ L → Below N w w'
  size : w.heap.size < w'.heap.size

def setsFirst (sx sy v e : Int) (ns rs : Value) : List (Nat × Value) :=
  [(5, .int .i32 1), (7, .int .u64 sx), (8, .int .i64 sy), (9, .pointer none), (10, .int .u64 sx), (11, .int .i64 sy), (12, .pointer none), (13, .int .i64 v), (14, .int .i64 e), (15, ns), (16, rs)]
def setsLater (sx sy v e : Int) (ns rs : Value) : List (Nat × Value) :=
  [(5, .int .i32 1), (10, .int .u64 sx), (11, .int .i64 sy), (12, .pointer none), (13, .int .i64 v), (14, .int .i64 e), (15, ns), (16, rs)]

theorem post_first (w : World) (L : Nat) (ax ay sx sy v e : Int) (ns rs : Value) (o1 o2 : Obj) (k : Lk w L ax ay) : HoldPost w (after w L (setsFirst sx sy v e ns rs) o1 o2) L sx sy sx sy v e ns rs := by
  have hp : ∀ p ∈ setsFirst sx sy v e ns rs, ∃ v, w.cell? ⟨L, p.1, none⟩ = some v := fun p hp => k.room _ (by
    simp only [setsFirst, List.mem_cons, List.not_mem_nil, or_false] at hp
    rcases hp with rfl | rfl | rfl | rfl | rfl | rfl | rfl | rfl | rfl | rfl | rfl <;> (dsimp only; omega))
  have c := after_cell w L (setsFirst sx sy v e ns rs) o1 o2 k.lt hp
  have c5 := after_c5 w L (setsFirst sx sy v e ns rs) o1 o2 k.lt hp (.int .i32 1) (by simp [setsFirst, look])
  have sz := after_size w L (setsFirst sx sy v e ns rs) o1 o2
  refine ⟨⟨by have := k.lt; omega, ?_, ?_, ?_, c5, ?_, ?_, ?_, ?_, ?_⟩, ⟨?_, ?_, ?_, ?_, ?_, ?_, ?_⟩, fun b o hb lt => after_other w L _ o1 o2 b o hb lt, fun b o lt => after_frozen w L _ o1 o2 b o lt, fun N hN => after_below N w L _ o1 o2 hN k.lt, sz⟩
  · rw [c 0 (by decide)]; simpa [setsFirst, look] using k.c0
  · rw [c 1 (by decide)]; simpa [setsFirst, look] using k.c1
  · rw [c 2 (by decide)]; simpa [setsFirst, look] using k.c2
  · rw [c 7 (by decide)]; simp [setsFirst, look]
  · rw [c 8 (by decide)]; simp [setsFirst, look]
  · rw [c 9 (by decide)]; simp [setsFirst, look]
  · intro o ho
    by_cases h5 : o = 5
    · subst h5; exact ⟨_, c5⟩
    · rw [c o h5]
      obtain ⟨u, hu⟩ := k.room o ho
      rw [hu]
      exact look_some _ _ _
  · intro o; rw [after_frozen _ _ _ _ _ _ _ k.lt]; exact k.fz o
  · rw [c 10 (by decide)]; simp [setsFirst, look]
  · rw [c 11 (by decide)]; simp [setsFirst, look]
  · rw [c 12 (by decide)]; simp [setsFirst, look]
  · rw [c 13 (by decide)]; simp [setsFirst, look]
  · rw [c 14 (by decide)]; simp [setsFirst, look]
  · rw [c 15 (by decide)]; simp [setsFirst, look]
  · rw [c 16 (by decide)]; simp [setsFirst, look]

theorem post_later (w : World) (L : Nat) (ax ay sx sy v e : Int) (ns rs : Value) (o1 o2 : Obj) (k : Lk w L ax ay) : HoldPost w (after w L (setsLater sx sy v e ns rs) o1 o2) L ax ay sx sy v e ns rs := by
  have hp : ∀ p ∈ setsLater sx sy v e ns rs, ∃ v, w.cell? ⟨L, p.1, none⟩ = some v := fun p hp => k.room _ (by
    simp only [setsLater, List.mem_cons, List.not_mem_nil, or_false] at hp
    rcases hp with rfl | rfl | rfl | rfl | rfl | rfl | rfl | rfl <;> (dsimp only; omega))
  have c := after_cell w L (setsLater sx sy v e ns rs) o1 o2 k.lt hp
  have c5 := after_c5 w L (setsLater sx sy v e ns rs) o1 o2 k.lt hp (.int .i32 1) (by simp [setsLater, look])
  have sz := after_size w L (setsLater sx sy v e ns rs) o1 o2
  refine ⟨⟨by have := k.lt; omega, ?_, ?_, ?_, c5, ?_, ?_, ?_, ?_, ?_⟩, ⟨?_, ?_, ?_, ?_, ?_, ?_, ?_⟩, fun b o hb lt => after_other w L _ o1 o2 b o hb lt, fun b o lt => after_frozen w L _ o1 o2 b o lt, fun N hN => after_below N w L _ o1 o2 hN k.lt, sz⟩
  · rw [c 0 (by decide)]; simpa [setsLater, look] using k.c0
  · rw [c 1 (by decide)]; simpa [setsLater, look] using k.c1
  · rw [c 2 (by decide)]; simpa [setsLater, look] using k.c2
  · rw [c 7 (by decide)]; simpa [setsLater, look] using k.c7
  · rw [c 8 (by decide)]; simpa [setsLater, look] using k.c8
  · rw [c 9 (by decide)]; simpa [setsLater, look] using k.c9
  · intro o ho
    by_cases h5 : o = 5
    · subst h5; exact ⟨_, c5⟩
    · rw [c o h5]
      obtain ⟨u, hu⟩ := k.room o ho
      rw [hu]
      exact look_some _ _ _
  · intro o; rw [after_frozen _ _ _ _ _ _ _ k.lt]; exact k.fz o
  · rw [c 10 (by decide)]; simp [setsLater, look]
  · rw [c 11 (by decide)]; simp [setsLater, look]
  · rw [c 12 (by decide)]; simp [setsLater, look]
  · rw [c 13 (by decide)]; simp [setsLater, look]
  · rw [c 14 (by decide)]; simp [setsLater, look]
  · rw [c 15 (by decide)]; simp [setsLater, look]
  · rw [c 16 (by decide)]; simp [setsLater, look]

set_option maxRecDepth 100000 in
theorem hold_first (L : Nat) (ax ay sx sy v e : Int) (an : Option Addr) (nn cn : Nat) (ar : Option Addr) (nr cr : Nat) (w : World) (hz : zeroB ax ay = true) (k : Lk w L ax ay) :
    Calls Yba.prog 6 #[.pointer (some ⟨L, 0, none⟩), .agg #[.int .u64 sx, .int .i64 sy, .pointer none], .int .i64 v, .int .i64 e, .slice an nn cn, .slice ar nr cr] w fun e' w' => e' = .returned (.tuple #[]) ∧ HoldPost w w' L sx sy sx sy v e (.slice an nn cn) (.slice ar nr cr) := by
  have K := k
  obtain ⟨lt, c0, c1, c2, c5, c7, c8, c9, room, fz⟩ := k
  have d5 : ∀ o, (w.alloc o).cell? ⟨L, 5, none⟩ = some (.int .i32 0) := fun o => (World.cell?_alloc_past o L 5 lt).trans c5
  have f5 : ∀ o i, (w.alloc o).frozen? ⟨L, i, none⟩ = false := fun o i => (World.frozen?_alloc_past o L i lt).trans (fz i)
  obtain ⟨v10, h10⟩ := room 10 (by decide)
  obtain ⟨v11, h11⟩ := room 11 (by decide)
  obtain ⟨v12, h12⟩ := room 12 (by decide)
  obtain ⟨v13, h13⟩ := room 13 (by decide)
  obtain ⟨v14, h14⟩ := room 14 (by decide)
  obtain ⟨v15, h15⟩ := room 15 (by decide)
  obtain ⟨v16, h16⟩ := room 16 (by decide)
  clear room
  go_enter_defers Yba.func6, Yba.ntmps6
  go_wp2_with (first | (go_at_call 13; refine (lock_free Yba.muLib ⟨L, 5, none⟩ _ (d5 _) (f5 _ _)).mono ?_; rintro e w' ⟨rfl, rfl⟩) | (go_at_call 5; refine (isZero_any _ _ _).mono ?_; rintro e w' ⟨rfl, rfl⟩))
  refine leaves_cons (f := 14) (args := #[.pointer (some ⟨L, 5, none⟩)]) (by simp) (by simp [go_sem]) ?_
  refine (unlock_deferred Yba.muLib ⟨L, 5, none⟩ .returning _ ?_ ?_).mono ?_
  · show (((puts w L (setsFirst sx sy v e (.slice an nn cn) (.slice ar nr cr))).alloc _).alloc _).cell? ⟨L, 5, none⟩ = _
    rw [World.cell?_alloc_past _ L 5 (by simp [puts_size]; omega), World.cell?_alloc_past _ L 5 (by simp [puts_size]; omega), puts_cell L _ w (fun p hp => K.room _ (by
      simp only [setsFirst, List.mem_cons, List.not_mem_nil, or_false] at hp
      rcases hp with rfl | rfl | rfl | rfl | rfl | rfl | rfl | rfl | rfl | rfl | rfl <;> (dsimp only; omega))) 5]
    simp [setsFirst, look]
  · show (((puts w L (setsFirst sx sy v e (.slice an nn cn) (.slice ar nr cr))).alloc _).alloc _).frozen? ⟨L, 5, none⟩ = _
    rw [World.frozen?_alloc_past _ L 5 (by simp [puts_size]; omega), World.frozen?_alloc_past _ L 5 (by simp [puts_size]; omega), puts_frozen]
    exact fz 5
  rintro e u' w'' ⟨rfl, rfl, rfl⟩
  exact ⟨_, results_none rfl _ _ _, rfl, post_first w L ax ay sx sy v _ (.slice an nn cn) (.slice ar nr cr) _ _ K⟩

set_option maxRecDepth 100000 in
theorem hold_later (L : Nat) (ax ay sx sy v e : Int) (an : Option Addr) (nn cn : Nat) (ar : Option Addr) (nr cr : Nat) (w : World) (hz : zeroB ax ay = false) (k : Lk w L ax ay) :
    Calls Yba.prog 6 #[.pointer (some ⟨L, 0, none⟩), .agg #[.int .u64 sx, .int .i64 sy, .pointer none], .int .i64 v, .int .i64 e, .slice an nn cn, .slice ar nr cr] w fun e' w' => e' = .returned (.tuple #[]) ∧ HoldPost w w' L ax ay sx sy v e (.slice an nn cn) (.slice ar nr cr) := by
  have K := k
  obtain ⟨lt, c0, c1, c2, c5, c7, c8, c9, room, fz⟩ := k
  have d5 : ∀ o, (w.alloc o).cell? ⟨L, 5, none⟩ = some (.int .i32 0) := fun o => (World.cell?_alloc_past o L 5 lt).trans c5
  have f5 : ∀ o i, (w.alloc o).frozen? ⟨L, i, none⟩ = false := fun o i => (World.frozen?_alloc_past o L i lt).trans (fz i)
  obtain ⟨v10, h10⟩ := room 10 (by decide)
  obtain ⟨v11, h11⟩ := room 11 (by decide)
  obtain ⟨v12, h12⟩ := room 12 (by decide)
  obtain ⟨v13, h13⟩ := room 13 (by decide)
  obtain ⟨v14, h14⟩ := room 14 (by decide)
  obtain ⟨v15, h15⟩ := room 15 (by decide)
  obtain ⟨v16, h16⟩ := room 16 (by decide)
  clear room
  go_enter_defers Yba.func6, Yba.ntmps6
  go_wp2_with (first | (go_at_call 13; refine (lock_free Yba.muLib ⟨L, 5, none⟩ _ (d5 _) (f5 _ _)).mono ?_; rintro e w' ⟨rfl, rfl⟩) | (go_at_call 5; refine (isZero_any _ _ _).mono ?_; rintro e w' ⟨rfl, rfl⟩))
  refine leaves_cons (f := 14) (args := #[.pointer (some ⟨L, 5, none⟩)]) (by simp) (by simp [go_sem]) ?_
  refine (unlock_deferred Yba.muLib ⟨L, 5, none⟩ .returning _ ?_ ?_).mono ?_
  · show (((puts w L (setsLater sx sy v e (.slice an nn cn) (.slice ar nr cr))).alloc _).alloc _).cell? ⟨L, 5, none⟩ = _
    rw [World.cell?_alloc_past _ L 5 (by simp [puts_size]; omega), World.cell?_alloc_past _ L 5 (by simp [puts_size]; omega), puts_cell L _ w (fun p hp => K.room _ (by
      simp only [setsLater, List.mem_cons, List.not_mem_nil, or_false] at hp
      rcases hp with rfl | rfl | rfl | rfl | rfl | rfl | rfl | rfl <;> (dsimp only; omega))) 5]
    simp [setsLater, look]
  · show (((puts w L (setsLater sx sy v e (.slice an nn cn) (.slice ar nr cr))).alloc _).alloc _).frozen? ⟨L, 5, none⟩ = _
    rw [World.frozen?_alloc_past _ L 5 (by simp [puts_size]; omega), World.frozen?_alloc_past _ L 5 (by simp [puts_size]; omega), puts_frozen]
    exact fz 5
  rintro e u' w'' ⟨rfl, rfl, rfl⟩
  exact ⟨_, results_none rfl _ _ _, rfl, post_later w L ax ay sx sy v _ (.slice an nn cn) (.slice ar nr cr) _ _ K⟩

end Go.Proofs.Ybulkdebq.Parts
