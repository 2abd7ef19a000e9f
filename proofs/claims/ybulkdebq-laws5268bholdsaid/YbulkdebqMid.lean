/-
  What holds at the head of the law's loop, and inside a round; the rows that a round makes.
-/
import Derived.Test.YbulkdebqParts
namespace Go.Proofs.Ybulkdebq.Law
open Go.ChangeShapes Go.WideShapes Go.ChangeAt Go.RowKit Go.MuLone TimeAdd Parts

/-- What holds at the loop's head. -/
structure Inv (w wr : World) (ax ay : Int) : Prop where
  below : Below w.heap.size w wr
  size : w.heap.size + 5 ≤ wr.heap.size
  lk : Lk wr (w.heap.size + 1 + 1 + 1) ax ay
  w0 : wr.cell? ⟨w.heap.size + 1 + 1 + 1 + 1, 0, none⟩ = some (.int .u64 ax)
  w1 : wr.cell? ⟨w.heap.size + 1 + 1 + 1 + 1, 1, none⟩ = some (.int .i64 ay)
  w2 : wr.cell? ⟨w.heap.size + 1 + 1 + 1 + 1, 2, none⟩ = some (.pointer none)
  wf : ∀ o, wr.frozen? ⟨w.heap.size + 1 + 1 + 1 + 1, o, none⟩ = false

theorem Lk.drewN {w : World} {L : Nat} {ax ay : Int} (k : Lk w L ax ay) (n : Nat) : Lk (w.drewN n) L ax ay := ⟨k.lt, k.c0, k.c1, k.c2, k.c5, k.c7, k.c8, k.c9, k.room, k.fz⟩
theorem Lk.later {w wy : World} {L : Nat} {ax ay : Int} (k : Lk w L ax ay) {B : Nat} (hB : L < B) (h : Below B w wy) : Lk wy L ax ay :=
  ⟨Nat.lt_of_lt_of_le k.lt h.size, (h.cell (p := ⟨L, 0, none⟩) hB).trans k.c0, (h.cell (p := ⟨L, 1, none⟩) hB).trans k.c1, (h.cell (p := ⟨L, 2, none⟩) hB).trans k.c2, (h.cell (p := ⟨L, 5, none⟩) hB).trans k.c5, (h.cell (p := ⟨L, 7, none⟩) hB).trans k.c7,
    (h.cell (p := ⟨L, 8, none⟩) hB).trans k.c8, (h.cell (p := ⟨L, 9, none⟩) hB).trans k.c9, fun o ho => let ⟨v, hv⟩ := k.room o ho; ⟨v, (h.cell (p := ⟨L, o, none⟩) hB).trans hv⟩, fun o => (h.frozen (p := ⟨L, o, none⟩) hB).trans (k.fz o)⟩

/-- What holds inside a round, behind the new time: the lock, the wanted time (block n + 4), the step's copy (block S), the new time (block S + 3). -/
structure Mid (w : World) (S : Nat) (ax ay sx sy v e nr : Int) (wx : World) : Prop where
  below : Below w.heap.size w wx
  size : S + 4 ≤ wx.heap.size
  lo : w.heap.size + 5 ≤ S
  lk : Lk wx (w.heap.size + 1 + 1 + 1) ax ay
  w0 : wx.cell? ⟨w.heap.size + 1 + 1 + 1 + 1, 0, none⟩ = some (.int .u64 ax)
  w1 : wx.cell? ⟨w.heap.size + 1 + 1 + 1 + 1, 1, none⟩ = some (.int .i64 ay)
  w2 : wx.cell? ⟨w.heap.size + 1 + 1 + 1 + 1, 2, none⟩ = some (.pointer none)
  wf : ∀ o, wx.frozen? ⟨w.heap.size + 1 + 1 + 1 + 1, o, none⟩ = false
  s1 : wx.cell? ⟨S, 1, none⟩ = some (.int .i64 v)
  s2 : wx.cell? ⟨S, 2, none⟩ = some (.int .i64 e)
  s4 : wx.cell? ⟨S, 4, none⟩ = some (.int .u8 nr)
  t0 : wx.cell? ⟨S + 1 + 1 + 1, 0, none⟩ = some (.int .u64 sx)
  t1 : wx.cell? ⟨S + 1 + 1 + 1, 1, none⟩ = some (.int .i64 sy)
  t2 : wx.cell? ⟨S + 1 + 1 + 1, 2, none⟩ = some (.pointer none)

theorem Mid.next {w : World} {S : Nat} {ax ay sx sy v e nr : Int} {wx wy : World} (m : Mid w S ax ay sx sy v e nr wx) {B : Nat} (hB : S + 4 ≤ B) (h : Below B wx wy) : Mid w S ax ay sx sy v e nr wy := by
  have lo := m.lo
  have c : ∀ b o, b < B → wy.cell? ⟨b, o, none⟩ = wx.cell? ⟨b, o, none⟩ := fun b o hb => h.cell (p := ⟨b, o, none⟩) hb
  have f : ∀ b o, b < B → wy.frozen? ⟨b, o, none⟩ = wx.frozen? ⟨b, o, none⟩ := fun b o hb => h.frozen (p := ⟨b, o, none⟩) hb
  exact ⟨m.below.trans (h.mono (by omega)), Nat.le_trans m.size h.size, lo, Lk.later m.lk (by omega) h, (c _ _ (by omega)).trans m.w0, (c _ _ (by omega)).trans m.w1, (c _ _ (by omega)).trans m.w2, fun o => (f _ o (by omega)).trans (m.wf o),
    (c _ _ (by omega)).trans m.s1, (c _ _ (by omega)).trans m.s2, (c _ _ (by omega)).trans m.s4, (c _ _ (by omega)).trans m.t0, (c _ _ (by omega)).trans m.t1, (c _ _ (by omega)).trans m.t2⟩

theorem mid_start {w wr : World} {ax ay : Int} (A : Inv w wr ax ay) (s v e nn nr sx sy : Int) :
    Mid w wr.heap.size ax ay sx sy v e nr ((((wr.alloc (.cells #[.int .i64 s, .int .i64 v, .int .i64 e, .int .u8 nn, .int .u8 nr] 43)).alloc (.cells #[.int .u64 sx, .int .i64 sy, .pointer none] 26)).alloc (.cells #[.int .u64 sx, .int .i64 sy, .pointer none] 26)).alloc (.cells #[.int .u64 sx, .int .i64 sy, .pointer none] 26)) := by
  have lo := A.size
  have hB : Below wr.heap.size wr ((((wr.alloc (.cells #[.int .i64 s, .int .i64 v, .int .i64 e, .int .u8 nn, .int .u8 nr] 43)).alloc (.cells #[.int .u64 sx, .int .i64 sy, .pointer none] 26)).alloc (.cells #[.int .u64 sx, .int .i64 sy, .pointer none] 26)).alloc (.cells #[.int .u64 sx, .int .i64 sy, .pointer none] 26)) :=
    ((((Below.refl _ _).alloc (by simp) _).alloc (by simp) _).alloc (by simp; omega) _).alloc (by simp; omega) _
  have c : ∀ b o, b < wr.heap.size → _ := fun b o hb => hB.cell (p := ⟨b, o, none⟩) hb
  have f : ∀ b o, b < wr.heap.size → _ := fun b o hb => hB.frozen (p := ⟨b, o, none⟩) hb
  refine ⟨A.below.trans (hB.mono (by omega)), by simp, lo, Lk.later A.lk (by omega) hB, (c _ _ (by omega)).trans A.w0, (c _ _ (by omega)).trans A.w1, (c _ _ (by omega)).trans A.w2, fun o => (f _ o (by omega)).trans (A.wf o), ?_, ?_, ?_, ?_, ?_, ?_⟩
  all_goals simp [go_sem]

/-- a slice that compares with itself -/
def SlOk (x : Value) : Prop := ∃ a n c, x = .slice a n c ∧ (n = 0 ∨ ∃ b o, a = some ⟨b, o, none⟩)

/-- a row of c cells at block B, that may be written -/
structure Row (B c : Nat) (w : World) : Prop where
  cell : ∀ o, o < c → ∃ v, w.cell? ⟨B, o, none⟩ = some v
  fz : ∀ o, w.frozen? ⟨B, o, none⟩ = false

theorem row_new (w : World) (C : Array Value) (t : TypeId) : Row w.heap.size C.size (w.alloc (.cells C t)) :=
  ⟨fun o ho => ⟨C[o], by rw [World.cell?_alloc_at C t _ o rfl]; simp [ho]⟩, fun o => World.frozen?_alloc_at C t _ o rfl⟩
theorem Row.set {B c : Nat} {w : World} (r : Row B c w) (i : Nat) (v : Value) : Row B c (w.setCell ⟨B, i, none⟩ v) := by
  refine ⟨fun o ho => ?_, fun o => by rw [World.frozen?_setCell]; exact r.fz o⟩
  obtain ⟨u, hu⟩ := r.cell o ho
  by_cases e : i = o
  · subst e; exact ⟨v, World.cell?_setCell_same w _ _ hu⟩
  · exact ⟨u, (World.cell?_setCell_other _ _ _ _ (fun x => e (by injection x))).trans hu⟩
theorem Row.new {B c : Nat} {w : World} (r : Row B c w) (hB : B < w.heap.size) (o : Obj) : Row B c (w.alloc o) :=
  ⟨fun i hi => let ⟨v, hv⟩ := r.cell i hi; ⟨v, (World.cell?_alloc_past o B i hB).trans hv⟩, fun i => (World.frozen?_alloc_past o B i hB).trans (r.fz i)⟩

theorem make38 (k : Nat) (hk : k < 5) (w : World) : ∃ C : Array Value, C.size = 3 * k ∧ (Instr.makeSlice 38 (.int .i64 (k : Int)) (.int .i64 (k : Int))).run Yba.prog w = .ok (.slice (some ⟨w.heap.size, 0, none⟩) k k) (w.alloc (.cells C 48)) := by
  have : k = 0 ∨ k = 1 ∨ k = 2 ∨ k = 3 ∨ k = 4 := by omega
  rcases this with rfl | rfl | rfl | rfl | rfl
  · exact ⟨#[], rfl, by kernel_rfl⟩
  · exact ⟨#[.string ⟨#[]⟩, .int .i64 0, .nilIface], rfl, by kernel_rfl⟩
  · exact ⟨#[.string ⟨#[]⟩, .int .i64 0, .nilIface, .string ⟨#[]⟩, .int .i64 0, .nilIface], rfl, by kernel_rfl⟩
  · exact ⟨#[.string ⟨#[]⟩, .int .i64 0, .nilIface, .string ⟨#[]⟩, .int .i64 0, .nilIface, .string ⟨#[]⟩, .int .i64 0, .nilIface], rfl, by kernel_rfl⟩
  · exact ⟨#[.string ⟨#[]⟩, .int .i64 0, .nilIface, .string ⟨#[]⟩, .int .i64 0, .nilIface, .string ⟨#[]⟩, .int .i64 0, .nilIface, .string ⟨#[]⟩, .int .i64 0, .nilIface], rfl, by kernel_rfl⟩
theorem make39 (k : Nat) (hk : k < 5) (w : World) : ∃ C : Array Value, C.size = k ∧ (Instr.makeSlice 39 (.int .i64 (k : Int)) (.int .i64 (k : Int))).run Yba.prog w = .ok (.slice (some ⟨w.heap.size, 0, none⟩) k k) (w.alloc (.cells C 49)) := by
  have : k = 0 ∨ k = 1 ∨ k = 2 ∨ k = 3 ∨ k = 4 := by omega
  rcases this with rfl | rfl | rfl | rfl | rfl
  · exact ⟨#[], rfl, by kernel_rfl⟩
  · exact ⟨#[.pointer none], rfl, by kernel_rfl⟩
  · exact ⟨#[.pointer none, .pointer none], rfl, by kernel_rfl⟩
  · exact ⟨#[.pointer none, .pointer none, .pointer none], rfl, by kernel_rfl⟩
  · exact ⟨#[.pointer none, .pointer none, .pointer none, .pointer none], rfl, by kernel_rfl⟩
theorem step38 {w : World} {S : Nat} {ax ay sx sy v e nr : Int} {wr : World} {kn j : Nat} (M : Mid w S ax ay sx sy v e nr wr) (R : Row (S + 1 + 1 + 1 + 1) (3 * kn) wr) (Z : S + 5 ≤ wr.heap.size) (hjl : j < kn) (x0 x1 x2 : Value) :
    ∃ j_1 : Nat, j_1 ≤ kn ∧ Value.int IntKind.i64 ((j : Int) + 1) = Value.int IntKind.i64 (j_1 : Int) ∧
      Mid w S ax ay sx sy v e nr (((wr.setCell ⟨S + 1 + 1 + 1 + 1, j * 3, none⟩ x0).setCell ⟨S + 1 + 1 + 1 + 1, j * 3 + 1, none⟩ x1).setCell ⟨S + 1 + 1 + 1 + 1, j * 3 + 2, none⟩ x2) ∧
      Row (S + 1 + 1 + 1 + 1) (3 * kn) (((wr.setCell ⟨S + 1 + 1 + 1 + 1, j * 3, none⟩ x0).setCell ⟨S + 1 + 1 + 1 + 1, j * 3 + 1, none⟩ x1).setCell ⟨S + 1 + 1 + 1 + 1, j * 3 + 2, none⟩ x2) ∧
      S + 5 ≤ (((wr.setCell ⟨S + 1 + 1 + 1 + 1, j * 3, none⟩ x0).setCell ⟨S + 1 + 1 + 1 + 1, j * 3 + 1, none⟩ x1).setCell ⟨S + 1 + 1 + 1 + 1, j * 3 + 2, none⟩ x2).heap.size := by
  have hB : Below (S + 1 + 1 + 1 + 1) wr (((wr.setCell ⟨S + 1 + 1 + 1 + 1, j * 3, none⟩ x0).setCell ⟨S + 1 + 1 + 1 + 1, j * 3 + 1, none⟩ x1).setCell ⟨S + 1 + 1 + 1 + 1, j * 3 + 2, none⟩ x2) :=
    (((Below.refl (S + 1 + 1 + 1 + 1) wr).setCell (p := ⟨S + 1 + 1 + 1 + 1, j * 3, none⟩) (Nat.le_refl (S + 1 + 1 + 1 + 1)) x0).setCell (p := ⟨S + 1 + 1 + 1 + 1, j * 3 + 1, none⟩) (Nat.le_refl (S + 1 + 1 + 1 + 1)) x1).setCell (p := ⟨S + 1 + 1 + 1 + 1, j * 3 + 2, none⟩) (Nat.le_refl (S + 1 + 1 + 1 + 1)) x2
  refine ⟨j + 1, hjl, rfl, ?_, ?_, ?_⟩
  · exact M.next (B := S + 1 + 1 + 1 + 1) (by omega) hB
  · exact ((R.set _ _).set _ _).set _ _
  · simp only [World.size_setCell]; exact Z

theorem start38 {w : World} {S : Nat} {ax ay sx sy v e nr : Int} {W4 : World} {kn : Nat} {C : Array Value} (M : Mid w S ax ay sx sy v e nr W4) (hS : W4.heap.size = S + 1 + 1 + 1 + 1) (hC : C.size = 3 * kn) (t : TypeId) :
    Mid w S ax ay sx sy v e nr (W4.alloc (.cells C t)) ∧ Row (S + 1 + 1 + 1 + 1) (3 * kn) (W4.alloc (.cells C t)) ∧ S + 5 ≤ (W4.alloc (.cells C t)).heap.size := by
  have hB : Below (S + 1 + 1 + 1 + 1) W4 (W4.alloc (.cells C t)) := (Below.refl (S + 1 + 1 + 1 + 1) W4).alloc (by omega) _
  refine ⟨M.next (B := S + 1 + 1 + 1 + 1) (by omega) hB, ?_, by simp; omega⟩
  have R := row_new W4 C t
  rw [hS, hC] at R
  exact R

/-- a round of the second loop: a new block, its address into the row -/
theorem step39 {w : World} {S B : Nat} {ax ay sx sy v e nr : Int} {wr : World} {kr j : Nat} (M : Mid w S ax ay sx sy v e nr wr) (hSB : S + 4 ≤ B) (R : Row B kr wr) (Z : B < wr.heap.size) (hjl : j < kr) (o : Obj) (x : Value) :
    ∃ j_1 : Nat, j_1 ≤ kr ∧ Value.int IntKind.i64 ((j : Int) + 1) = Value.int IntKind.i64 (j_1 : Int) ∧ Mid w S ax ay sx sy v e nr ((wr.setCell ⟨B, j, none⟩ x).alloc o) ∧ Row B kr ((wr.setCell ⟨B, j, none⟩ x).alloc o) ∧ B < ((wr.setCell ⟨B, j, none⟩ x).alloc o).heap.size := by
  have hB : Below B wr ((wr.setCell ⟨B, j, none⟩ x).alloc o) := ((Below.refl B wr).setCell (p := ⟨B, j, none⟩) (Nat.le_refl B) x).alloc (by simp; omega) o
  exact ⟨j + 1, hjl, rfl, M.next hSB hB, (R.set _ _).new (by simpa using Z) o, by simp; omega⟩
theorem start39 {w : World} {S : Nat} {ax ay sx sy v e nr : Int} {W : World} {kr : Nat} {C : Array Value} (M : Mid w S ax ay sx sy v e nr W) (hC : C.size = kr) (t : TypeId) :
    Mid w S ax ay sx sy v e nr (W.alloc (.cells C t)) ∧ Row W.heap.size kr (W.alloc (.cells C t)) ∧ W.heap.size < (W.alloc (.cells C t)).heap.size := by
  have hB : Below W.heap.size W (W.alloc (.cells C t)) := (Below.refl _ W).alloc (Nat.le_refl _) _
  refine ⟨M.next (B := W.heap.size) M.size hB, ?_, by simp⟩
  have R := row_new W C t
  rw [hC] at R
  exact R
/-- the time that is wanted behind a step: the step's start where none was set before -/
def pick (ax ay p q : Int) : Int := if zeroB ax ay = true then q else p

theorem hold_any (L : Nat) (ax ay sx sy v e : Int) (an : Option Addr) (nn cn : Nat) (ar : Option Addr) (nr cr : Nat) (w : World) (k : Lk w L ax ay) :
    Calls Yba.prog 6 #[.pointer (some ⟨L, 0, none⟩), .agg #[.int .u64 sx, .int .i64 sy, .pointer none], .int .i64 v, .int .i64 e, .slice an nn cn, .slice ar nr cr] w fun e' w' => e' = .returned (.tuple #[]) ∧
      HoldPost w w' L (pick ax ay ax sx) (pick ax ay ay sy) sx sy v e (.slice an nn cn) (.slice ar nr cr) := by
  by_cases hz : zeroB ax ay = true
  · rw [show pick ax ay ax sx = sx from if_pos hz, show pick ax ay ay sy = sy from if_pos hz]
    exact hold_first L ax ay sx sy v e an nn cn ar nr cr w hz k
  · rw [show pick ax ay ax sx = ax from if_neg hz, show pick ax ay ay sy = ay from if_neg hz]
    exact hold_later L ax ay sx sy v e an nn cn ar nr cr w (by simpa using hz) k

/-- behind the test on the wanted time: it may have been set anew -/
structure Mid2 (w : World) (S : Nat) (ax ay bx bz sx sy v e : Int) (wx : World) : Prop where
  below : Below w.heap.size w wx
  size : S + 4 ≤ wx.heap.size
  lo : w.heap.size + 5 ≤ S
  lk : Lk wx (w.heap.size + 1 + 1 + 1) ax ay
  w0 : wx.cell? ⟨w.heap.size + 1 + 1 + 1 + 1, 0, none⟩ = some (.int .u64 bx)
  w1 : wx.cell? ⟨w.heap.size + 1 + 1 + 1 + 1, 1, none⟩ = some (.int .i64 bz)
  w2 : wx.cell? ⟨w.heap.size + 1 + 1 + 1 + 1, 2, none⟩ = some (.pointer none)
  wf : ∀ o, wx.frozen? ⟨w.heap.size + 1 + 1 + 1 + 1, o, none⟩ = false
  s1 : wx.cell? ⟨S, 1, none⟩ = some (.int .i64 v)
  s2 : wx.cell? ⟨S, 2, none⟩ = some (.int .i64 e)
  t0 : wx.cell? ⟨S + 1 + 1 + 1, 0, none⟩ = some (.int .u64 sx)
  t1 : wx.cell? ⟨S + 1 + 1 + 1, 1, none⟩ = some (.int .i64 sy)
  t2 : wx.cell? ⟨S + 1 + 1 + 1, 2, none⟩ = some (.pointer none)

theorem mid2_keep {w : World} {S : Nat} {ax ay sx sy v e nr : Int} {wx : World} (m : Mid w S ax ay sx sy v e nr wx) (o : Obj) (hz : zeroB ax ay = false) :
    Mid2 w S ax ay (pick ax ay ax sx) (pick ax ay ay sy) sx sy v e (wx.alloc o) := by
  have hn : ¬ zeroB ax ay = true := by simp [hz]
  rw [show pick ax ay ax sx = ax from if_neg hn, show pick ax ay ay sy = ay from if_neg hn]
  have m' := m.next (B := wx.heap.size) m.size ((Below.refl _ wx).alloc (Nat.le_refl _) o)
  exact ⟨m'.below, m'.size, m'.lo, m'.lk, m'.w0, m'.w1, m'.w2, m'.wf, m'.s1, m'.s2, m'.t0, m'.t1, m'.t2⟩

theorem mid2_set0 {w : World} {S : Nat} {ax ay sx sy v e nr : Int} {W : World} (m' : Mid w S ax ay sx sy v e nr W) (hz : zeroB ax ay = true) :
    Mid2 w S ax ay (pick ax ay ax sx) (pick ax ay ay sy) sx sy v e (((W.setCell ⟨w.heap.size + 1 + 1 + 1 + 1, 0, none⟩ (.int .u64 sx)).setCell ⟨w.heap.size + 1 + 1 + 1 + 1, 1, none⟩ (.int .i64 sy)).setCell ⟨w.heap.size + 1 + 1 + 1 + 1, 2, none⟩ (.pointer none)) := by
  rw [show pick ax ay ax sx = sx from if_pos hz, show pick ax ay ay sy = sy from if_pos hz]
  have lo := m'.lo
  have hp := puts_cell (w.heap.size + 1 + 1 + 1 + 1) [(0, .int .u64 sx), (1, .int .i64 sy), (2, .pointer none)] W (fun p hp => by
    simp only [List.mem_cons, List.not_mem_nil, or_false] at hp
    rcases hp with rfl | rfl | rfl
    · exact ⟨_, m'.w0⟩
    · exact ⟨_, m'.w1⟩
    · exact ⟨_, m'.w2⟩)
  have ho := fun b o hb => puts_other (w.heap.size + 1 + 1 + 1 + 1) [(0, .int .u64 sx), (1, .int .i64 sy), (2, .pointer none)] W b o hb
  have hf := fun a => puts_frozen (w.heap.size + 1 + 1 + 1 + 1) [(0, .int .u64 sx), (1, .int .i64 sy), (2, .pointer none)] W a
  have hs := puts_size (w.heap.size + 1 + 1 + 1 + 1) [(0, .int .u64 sx), (1, .int .i64 sy), (2, .pointer none)] W
  have hb := puts_below w.heap.size (w.heap.size + 1 + 1 + 1 + 1) (by omega) [(0, .int .u64 sx), (1, .int .i64 sy), (2, .pointer none)] w W m'.below
  show Mid2 w S ax ay sx sy sx sy v e (puts W (w.heap.size + 1 + 1 + 1 + 1) [(0, .int .u64 sx), (1, .int .i64 sy), (2, .pointer none)])
  generalize puts W (w.heap.size + 1 + 1 + 1 + 1) [(0, .int .u64 sx), (1, .int .i64 sy), (2, .pointer none)] = X at *
  have k := m'.lk
  exact ⟨hb, by rw [hs]; exact m'.size, lo, ⟨by rw [hs]; exact k.lt, (ho _ _ (by omega)).trans k.c0, (ho _ _ (by omega)).trans k.c1, (ho _ _ (by omega)).trans k.c2, (ho _ _ (by omega)).trans k.c5, (ho _ _ (by omega)).trans k.c7, (ho _ _ (by omega)).trans k.c8, (ho _ _ (by omega)).trans k.c9,
      fun i hi => let ⟨u, hu⟩ := k.room i hi; ⟨u, (ho _ _ (by omega)).trans hu⟩, fun i => (hf _).trans (k.fz i)⟩,
    (by rw [hp 0]; rfl), (by rw [hp 1]; rfl), (by rw [hp 2]; rfl), fun i => (hf _).trans (m'.wf i),
    (ho _ _ (by omega)).trans m'.s1, (ho _ _ (by omega)).trans m'.s2, (ho _ _ (by omega)).trans m'.t0, (ho _ _ (by omega)).trans m'.t1, (ho _ _ (by omega)).trans m'.t2⟩

theorem mid2_set {w : World} {S : Nat} {ax ay sx sy v e nr : Int} {wx : World} (m : Mid w S ax ay sx sy v e nr wx) (o : Obj) (hz : zeroB ax ay = true) :
    Mid2 w S ax ay (pick ax ay ax sx) (pick ax ay ay sy) sx sy v e ((((wx.setCell ⟨w.heap.size + 1 + 1 + 1 + 1, 0, none⟩ (.int .u64 sx)).setCell ⟨w.heap.size + 1 + 1 + 1 + 1, 1, none⟩ (.int .i64 sy)).setCell ⟨w.heap.size + 1 + 1 + 1 + 1, 2, none⟩ (.pointer none)).alloc o) := by
  have m2 := mid2_set0 m hz
  generalize (((wx.setCell ⟨w.heap.size + 1 + 1 + 1 + 1, 0, none⟩ (.int .u64 sx)).setCell ⟨w.heap.size + 1 + 1 + 1 + 1, 1, none⟩ (.int .i64 sy)).setCell ⟨w.heap.size + 1 + 1 + 1 + 1, 2, none⟩ (.pointer none)) = X at *
  have hB : Below X.heap.size X (X.alloc o) := (Below.refl _ X).alloc (Nat.le_refl _) o
  have lo := m2.lo
  have sz := m2.size
  have c : ∀ b i, b < X.heap.size → (X.alloc o).cell? ⟨b, i, none⟩ = X.cell? ⟨b, i, none⟩ := fun b i hb => hB.cell (p := ⟨b, i, none⟩) hb
  exact ⟨m2.below.trans (hB.mono (by omega)), by simp; omega, lo, Lk.later m2.lk (by omega) hB, (c _ _ (by omega)).trans m2.w0, (c _ _ (by omega)).trans m2.w1, (c _ _ (by omega)).trans m2.w2, fun i => (hB.frozen (p := ⟨_, i, none⟩) (by show w.heap.size + 1 + 1 + 1 + 1 < X.heap.size; omega)).trans (m2.wf i),
    (c _ _ (by omega)).trans m2.s1, (c _ _ (by omega)).trans m2.s2, (c _ _ (by omega)).trans m2.t0, (c _ _ (by omega)).trans m2.t1, (c _ _ (by omega)).trans m2.t2⟩

/-- behind 'hold' -/
structure Fin (w : World) (S : Nat) (bx bz sx sy v e : Int) (ns rs : Value) (wx : World) : Prop where
  below : Below w.heap.size w wx
  size : w.heap.size + 5 ≤ wx.heap.size
  lk : Lk wx (w.heap.size + 1 + 1 + 1) bx bz
  held : Held wx (w.heap.size + 1 + 1 + 1) sx sy v e ns rs
  w0 : wx.cell? ⟨w.heap.size + 1 + 1 + 1 + 1, 0, none⟩ = some (.int .u64 bx)
  w1 : wx.cell? ⟨w.heap.size + 1 + 1 + 1 + 1, 1, none⟩ = some (.int .i64 bz)
  w2 : wx.cell? ⟨w.heap.size + 1 + 1 + 1 + 1, 2, none⟩ = some (.pointer none)
  wf : ∀ o, wx.frozen? ⟨w.heap.size + 1 + 1 + 1 + 1, o, none⟩ = false
  t0 : wx.cell? ⟨S + 1 + 1 + 1, 0, none⟩ = some (.int .u64 sx)
  t1 : wx.cell? ⟨S + 1 + 1 + 1, 1, none⟩ = some (.int .i64 sy)
  t2 : wx.cell? ⟨S + 1 + 1 + 1, 2, none⟩ = some (.pointer none)

theorem fin_of {w : World} {S : Nat} {ax ay bx bz sx sy v e : Int} {ns rs : Value} {wx wy : World} (m : Mid2 w S ax ay bx bz sx sy v e wx) (p : HoldPost wx wy (w.heap.size + 1 + 1 + 1) bx bz sx sy v e ns rs) : Fin w S bx bz sx sy v e ns rs wy := by
  have lo := m.lo
  have sz := m.size
  have pz := p.size
  exact ⟨m.below.trans (p.below _ (by omega)), by omega, p.lk, p.held, (p.other _ _ (by omega) (by omega)).trans m.w0, (p.other _ _ (by omega) (by omega)).trans m.w1, (p.other _ _ (by omega) (by omega)).trans m.w2, fun o => (p.otherF _ o (by omega)).trans (m.wf o),
    (p.other _ _ (by omega) (by omega)).trans m.t0, (p.other _ _ (by omega) (by omega)).trans m.t1, (p.other _ _ (by omega) (by omega)).trans m.t2⟩

theorem fin_inv {w : World} {S : Nat} {bx bz sx sy v e : Int} {ns rs : Value} {wx : World} (f : Fin w S bx bz sx sy v e ns rs wx) : Inv w wx bx bz :=
  ⟨f.below, f.size, f.lk, f.w0, f.w1, f.w2, f.wf⟩
theorem Inv.draw {w wx : World} {bx bz : Int} (f : Inv w wx bx bz) (n : Nat) : Inv w (wx.drewN n) bx bz :=
  ⟨below_drewN f.below n, f.size, Lk.drewN f.lk n, f.w0, f.w1, f.w2, f.wf⟩

theorem eqp26 (d : Nat) (w : World) : (Op.equalIn (d + 1) 24 (.pointer none) (.pointer none)).run Yba.prog w = .ok true w := by
  simp [Op.equalIn, run_underlying Yba.underlying24]
theorem eq26 (a b : Int) (w : World) : (Op.equalIn 10000 26 (.agg #[.int .u64 a, .int .i64 b, .pointer none]) (.agg #[.int .u64 a, .int .i64 b, .pointer none])).run Yba.prog w = .ok true w := by
  have hS : Yba.prog.underlying 26 = some (.struct (Yba.prog.fieldsOf 26)) := by kernel_rfl
  have hp : Yba.prog.stoodInHeld 26 = false := by kernel_rfl
  have he : ∀ w, (Op.equalIn 9999 24 (.pointer none) (.pointer none)).run Yba.prog w = .ok true w := eqp26 9998
  rw [show (10000 : Nat) = 9999 + 1 from rfl, run_equalIn_agg w 9999 26 _ _ hS hp]
  simp only [Program.fieldsOf, Yba.underlying26]
  go_simp
end Go.Proofs.Ybulkdebq.Law
