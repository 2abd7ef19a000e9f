/-
  The manager in memory: the words of its locks, and what each call on a lock turns.
-/
import Derived.Test.YbulkddveGreatTry
namespace Go.Proofs.YbulkddveGreat.Mg
open Go.ChangeShapes Go.WideShapes Go.ChangeAt Go.RowKit Try
open Go.MuLone (unlock_held lock_free)
open Go.RwLone (wlock_free wunlock_held)
set_option maxRecDepth 100000

/-- All blocks but the one at M are as they were. -/
structure Keep (M : Nat) (w w' : World) : Prop where
  os : w'.os = w.os
  tape : w'.tape = w.tape
  output : w'.output = w.output
  size : w.heap.size ≤ w'.heap.size
  block : ∀ b, b < w.heap.size → b ≠ M → w'.heap[b]? = w.heap[b]?
theorem Keep.refl (M : Nat) (w : World) : Keep M w w := ⟨rfl, rfl, rfl, Nat.le_refl _, fun _ _ _ => rfl⟩
theorem Keep.trans {M : Nat} {a b c : World} (h : Keep M a b) (g : Keep M b c) : Keep M a c :=
  ⟨g.os.trans h.os, g.tape.trans h.tape, g.output.trans h.output, Nat.le_trans h.size g.size, fun k hk hm => (g.block k (Nat.lt_of_lt_of_le hk h.size) hm).trans (h.block k hk hm)⟩
theorem Keep.set (M : Nat) (w : World) (o : Nat) (v : Value) : Keep M w (w.setCell ⟨M, o, none⟩ v) :=
  ⟨rfl, rfl, rfl, by simp, fun k _ hm => Below.heap_setCell _ _ _ _ hm⟩
theorem Keep.new (M : Nat) (w : World) (o : Obj) : Keep M w (w.alloc o) := by
  have h := (Below.refl w.heap.size w).alloc (Nat.le_refl _) o
  exact ⟨h.os, h.tape, h.output, h.size, fun k hk _ => h.block k hk⟩
theorem Keep.below {M : Nat} {w w' : World} (h : Keep M w w') {N : Nat} (hN : N ≤ M) (hs : N ≤ w.heap.size) : Below N w w' :=
  ⟨h.os, h.tape, h.output, h.size, fun k hk => h.block k (by omega) (by omega)⟩
theorem Keep.cell {M : Nat} {w w' : World} (h : Keep M w w') (b o : Nat) (hb : b ≠ M) (hs : b < w.heap.size) : w'.cell? ⟨b, o, none⟩ = w.cell? ⟨b, o, none⟩ := by
  simp only [World.cell?]
  rw [h.block b hs hb]
theorem Keep.frozen {M : Nat} {w w' : World} (h : Keep M w w') (b o : Nat) (hb : b ≠ M) (hs : b < w.heap.size) : w'.frozen? ⟨b, o, none⟩ = w.frozen? ⟨b, o, none⟩ := by
  simp only [World.frozen?]
  rw [h.block b hs hb]

/-- The manager at block M: the words of its locks; the count of changes; its two maps; its queue, empty. -/
structure Mgr (w : World) (M : Nat) (s3 s7 s10 s12 s15 s19 s24 s27 ch : Int) (ma mg : Value) : Prop where
  lt : M < w.heap.size
  c3 : w.cell? ⟨M, 3, none⟩ = some (.int .i32 s3)
  c7 : w.cell? ⟨M, 7, none⟩ = some (.int .i32 s7)
  c10 : w.cell? ⟨M, 10, none⟩ = some (.int .i32 s10)
  c12 : w.cell? ⟨M, 12, none⟩ = some (.int .i32 s12)
  c15 : w.cell? ⟨M, 15, none⟩ = some (.int .i32 s15)
  c19 : w.cell? ⟨M, 19, none⟩ = some (.int .i32 s19)
  c24 : w.cell? ⟨M, 24, none⟩ = some (.int .i32 s24)
  c27 : w.cell? ⟨M, 27, none⟩ = some (.int .i32 s27)
  c5 : w.cell? ⟨M, 5, none⟩ = some (.int .u32 0)
  c6 : w.cell? ⟨M, 6, none⟩ = some (.int .u32 0)
  c17 : w.cell? ⟨M, 17, none⟩ = some (.int .u32 0)
  c18 : w.cell? ⟨M, 18, none⟩ = some (.int .u32 0)
  c11 : w.cell? ⟨M, 11, none⟩ = some (.int .u64 ch)
  c14 : w.cell? ⟨M, 14, none⟩ = some ma
  c26 : w.cell? ⟨M, 26, none⟩ = some mg
  c29 : w.cell? ⟨M, 29, none⟩ = some (.slice none 0 0)
  fz : ∀ o, w.frozen? ⟨M, o, none⟩ = false

theorem Mgr.set3 {w : World} {M : Nat} {s3 s7 s10 s12 s15 s19 s24 s27 ch : Int} {ma mg : Value} (h : Mgr w M s3 s7 s10 s12 s15 s19 s24 s27 ch ma mg) (x : Int) : Mgr (w.setCell ⟨M, 3, none⟩ (.int .i32 x)) M x s7 s10 s12 s15 s19 s24 s27 ch ma mg :=
  ⟨by simpa using h.lt, World.cell?_setCell_same _ _ _ h.c3, (World.cell?_setCell_other _ _ _ _ (by simp)).trans h.c7, (World.cell?_setCell_other _ _ _ _ (by simp)).trans h.c10, (World.cell?_setCell_other _ _ _ _ (by simp)).trans h.c12, (World.cell?_setCell_other _ _ _ _ (by simp)).trans h.c15, (World.cell?_setCell_other _ _ _ _ (by simp)).trans h.c19, (World.cell?_setCell_other _ _ _ _ (by simp)).trans h.c24, (World.cell?_setCell_other _ _ _ _ (by simp)).trans h.c27, (World.cell?_setCell_other _ _ _ _ (by simp)).trans h.c5, (World.cell?_setCell_other _ _ _ _ (by simp)).trans h.c6, (World.cell?_setCell_other _ _ _ _ (by simp)).trans h.c17, (World.cell?_setCell_other _ _ _ _ (by simp)).trans h.c18, (World.cell?_setCell_other _ _ _ _ (by simp)).trans h.c11, (World.cell?_setCell_other _ _ _ _ (by simp)).trans h.c14, (World.cell?_setCell_other _ _ _ _ (by simp)).trans h.c26, (World.cell?_setCell_other _ _ _ _ (by simp)).trans h.c29, fun o => by rw [World.frozen?_setCell]; exact h.fz o⟩
theorem Mgr.set7 {w : World} {M : Nat} {s3 s7 s10 s12 s15 s19 s24 s27 ch : Int} {ma mg : Value} (h : Mgr w M s3 s7 s10 s12 s15 s19 s24 s27 ch ma mg) (x : Int) : Mgr (w.setCell ⟨M, 7, none⟩ (.int .i32 x)) M s3 x s10 s12 s15 s19 s24 s27 ch ma mg :=
  ⟨by simpa using h.lt, (World.cell?_setCell_other _ _ _ _ (by simp)).trans h.c3, World.cell?_setCell_same _ _ _ h.c7, (World.cell?_setCell_other _ _ _ _ (by simp)).trans h.c10, (World.cell?_setCell_other _ _ _ _ (by simp)).trans h.c12, (World.cell?_setCell_other _ _ _ _ (by simp)).trans h.c15, (World.cell?_setCell_other _ _ _ _ (by simp)).trans h.c19, (World.cell?_setCell_other _ _ _ _ (by simp)).trans h.c24, (World.cell?_setCell_other _ _ _ _ (by simp)).trans h.c27, (World.cell?_setCell_other _ _ _ _ (by simp)).trans h.c5, (World.cell?_setCell_other _ _ _ _ (by simp)).trans h.c6, (World.cell?_setCell_other _ _ _ _ (by simp)).trans h.c17, (World.cell?_setCell_other _ _ _ _ (by simp)).trans h.c18, (World.cell?_setCell_other _ _ _ _ (by simp)).trans h.c11, (World.cell?_setCell_other _ _ _ _ (by simp)).trans h.c14, (World.cell?_setCell_other _ _ _ _ (by simp)).trans h.c26, (World.cell?_setCell_other _ _ _ _ (by simp)).trans h.c29, fun o => by rw [World.frozen?_setCell]; exact h.fz o⟩
theorem Mgr.set10 {w : World} {M : Nat} {s3 s7 s10 s12 s15 s19 s24 s27 ch : Int} {ma mg : Value} (h : Mgr w M s3 s7 s10 s12 s15 s19 s24 s27 ch ma mg) (x : Int) : Mgr (w.setCell ⟨M, 10, none⟩ (.int .i32 x)) M s3 s7 x s12 s15 s19 s24 s27 ch ma mg :=
  ⟨by simpa using h.lt, (World.cell?_setCell_other _ _ _ _ (by simp)).trans h.c3, (World.cell?_setCell_other _ _ _ _ (by simp)).trans h.c7, World.cell?_setCell_same _ _ _ h.c10, (World.cell?_setCell_other _ _ _ _ (by simp)).trans h.c12, (World.cell?_setCell_other _ _ _ _ (by simp)).trans h.c15, (World.cell?_setCell_other _ _ _ _ (by simp)).trans h.c19, (World.cell?_setCell_other _ _ _ _ (by simp)).trans h.c24, (World.cell?_setCell_other _ _ _ _ (by simp)).trans h.c27, (World.cell?_setCell_other _ _ _ _ (by simp)).trans h.c5, (World.cell?_setCell_other _ _ _ _ (by simp)).trans h.c6, (World.cell?_setCell_other _ _ _ _ (by simp)).trans h.c17, (World.cell?_setCell_other _ _ _ _ (by simp)).trans h.c18, (World.cell?_setCell_other _ _ _ _ (by simp)).trans h.c11, (World.cell?_setCell_other _ _ _ _ (by simp)).trans h.c14, (World.cell?_setCell_other _ _ _ _ (by simp)).trans h.c26, (World.cell?_setCell_other _ _ _ _ (by simp)).trans h.c29, fun o => by rw [World.frozen?_setCell]; exact h.fz o⟩
theorem Mgr.set12 {w : World} {M : Nat} {s3 s7 s10 s12 s15 s19 s24 s27 ch : Int} {ma mg : Value} (h : Mgr w M s3 s7 s10 s12 s15 s19 s24 s27 ch ma mg) (x : Int) : Mgr (w.setCell ⟨M, 12, none⟩ (.int .i32 x)) M s3 s7 s10 x s15 s19 s24 s27 ch ma mg :=
  ⟨by simpa using h.lt, (World.cell?_setCell_other _ _ _ _ (by simp)).trans h.c3, (World.cell?_setCell_other _ _ _ _ (by simp)).trans h.c7, (World.cell?_setCell_other _ _ _ _ (by simp)).trans h.c10, World.cell?_setCell_same _ _ _ h.c12, (World.cell?_setCell_other _ _ _ _ (by simp)).trans h.c15, (World.cell?_setCell_other _ _ _ _ (by simp)).trans h.c19, (World.cell?_setCell_other _ _ _ _ (by simp)).trans h.c24, (World.cell?_setCell_other _ _ _ _ (by simp)).trans h.c27, (World.cell?_setCell_other _ _ _ _ (by simp)).trans h.c5, (World.cell?_setCell_other _ _ _ _ (by simp)).trans h.c6, (World.cell?_setCell_other _ _ _ _ (by simp)).trans h.c17, (World.cell?_setCell_other _ _ _ _ (by simp)).trans h.c18, (World.cell?_setCell_other _ _ _ _ (by simp)).trans h.c11, (World.cell?_setCell_other _ _ _ _ (by simp)).trans h.c14, (World.cell?_setCell_other _ _ _ _ (by simp)).trans h.c26, (World.cell?_setCell_other _ _ _ _ (by simp)).trans h.c29, fun o => by rw [World.frozen?_setCell]; exact h.fz o⟩
theorem Mgr.set15 {w : World} {M : Nat} {s3 s7 s10 s12 s15 s19 s24 s27 ch : Int} {ma mg : Value} (h : Mgr w M s3 s7 s10 s12 s15 s19 s24 s27 ch ma mg) (x : Int) : Mgr (w.setCell ⟨M, 15, none⟩ (.int .i32 x)) M s3 s7 s10 s12 x s19 s24 s27 ch ma mg :=
  ⟨by simpa using h.lt, (World.cell?_setCell_other _ _ _ _ (by simp)).trans h.c3, (World.cell?_setCell_other _ _ _ _ (by simp)).trans h.c7, (World.cell?_setCell_other _ _ _ _ (by simp)).trans h.c10, (World.cell?_setCell_other _ _ _ _ (by simp)).trans h.c12, World.cell?_setCell_same _ _ _ h.c15, (World.cell?_setCell_other _ _ _ _ (by simp)).trans h.c19, (World.cell?_setCell_other _ _ _ _ (by simp)).trans h.c24, (World.cell?_setCell_other _ _ _ _ (by simp)).trans h.c27, (World.cell?_setCell_other _ _ _ _ (by simp)).trans h.c5, (World.cell?_setCell_other _ _ _ _ (by simp)).trans h.c6, (World.cell?_setCell_other _ _ _ _ (by simp)).trans h.c17, (World.cell?_setCell_other _ _ _ _ (by simp)).trans h.c18, (World.cell?_setCell_other _ _ _ _ (by simp)).trans h.c11, (World.cell?_setCell_other _ _ _ _ (by simp)).trans h.c14, (World.cell?_setCell_other _ _ _ _ (by simp)).trans h.c26, (World.cell?_setCell_other _ _ _ _ (by simp)).trans h.c29, fun o => by rw [World.frozen?_setCell]; exact h.fz o⟩
theorem Mgr.set19 {w : World} {M : Nat} {s3 s7 s10 s12 s15 s19 s24 s27 ch : Int} {ma mg : Value} (h : Mgr w M s3 s7 s10 s12 s15 s19 s24 s27 ch ma mg) (x : Int) : Mgr (w.setCell ⟨M, 19, none⟩ (.int .i32 x)) M s3 s7 s10 s12 s15 x s24 s27 ch ma mg :=
  ⟨by simpa using h.lt, (World.cell?_setCell_other _ _ _ _ (by simp)).trans h.c3, (World.cell?_setCell_other _ _ _ _ (by simp)).trans h.c7, (World.cell?_setCell_other _ _ _ _ (by simp)).trans h.c10, (World.cell?_setCell_other _ _ _ _ (by simp)).trans h.c12, (World.cell?_setCell_other _ _ _ _ (by simp)).trans h.c15, World.cell?_setCell_same _ _ _ h.c19, (World.cell?_setCell_other _ _ _ _ (by simp)).trans h.c24, (World.cell?_setCell_other _ _ _ _ (by simp)).trans h.c27, (World.cell?_setCell_other _ _ _ _ (by simp)).trans h.c5, (World.cell?_setCell_other _ _ _ _ (by simp)).trans h.c6, (World.cell?_setCell_other _ _ _ _ (by simp)).trans h.c17, (World.cell?_setCell_other _ _ _ _ (by simp)).trans h.c18, (World.cell?_setCell_other _ _ _ _ (by simp)).trans h.c11, (World.cell?_setCell_other _ _ _ _ (by simp)).trans h.c14, (World.cell?_setCell_other _ _ _ _ (by simp)).trans h.c26, (World.cell?_setCell_other _ _ _ _ (by simp)).trans h.c29, fun o => by rw [World.frozen?_setCell]; exact h.fz o⟩
theorem Mgr.set24 {w : World} {M : Nat} {s3 s7 s10 s12 s15 s19 s24 s27 ch : Int} {ma mg : Value} (h : Mgr w M s3 s7 s10 s12 s15 s19 s24 s27 ch ma mg) (x : Int) : Mgr (w.setCell ⟨M, 24, none⟩ (.int .i32 x)) M s3 s7 s10 s12 s15 s19 x s27 ch ma mg :=
  ⟨by simpa using h.lt, (World.cell?_setCell_other _ _ _ _ (by simp)).trans h.c3, (World.cell?_setCell_other _ _ _ _ (by simp)).trans h.c7, (World.cell?_setCell_other _ _ _ _ (by simp)).trans h.c10, (World.cell?_setCell_other _ _ _ _ (by simp)).trans h.c12, (World.cell?_setCell_other _ _ _ _ (by simp)).trans h.c15, (World.cell?_setCell_other _ _ _ _ (by simp)).trans h.c19, World.cell?_setCell_same _ _ _ h.c24, (World.cell?_setCell_other _ _ _ _ (by simp)).trans h.c27, (World.cell?_setCell_other _ _ _ _ (by simp)).trans h.c5, (World.cell?_setCell_other _ _ _ _ (by simp)).trans h.c6, (World.cell?_setCell_other _ _ _ _ (by simp)).trans h.c17, (World.cell?_setCell_other _ _ _ _ (by simp)).trans h.c18, (World.cell?_setCell_other _ _ _ _ (by simp)).trans h.c11, (World.cell?_setCell_other _ _ _ _ (by simp)).trans h.c14, (World.cell?_setCell_other _ _ _ _ (by simp)).trans h.c26, (World.cell?_setCell_other _ _ _ _ (by simp)).trans h.c29, fun o => by rw [World.frozen?_setCell]; exact h.fz o⟩
theorem Mgr.set27 {w : World} {M : Nat} {s3 s7 s10 s12 s15 s19 s24 s27 ch : Int} {ma mg : Value} (h : Mgr w M s3 s7 s10 s12 s15 s19 s24 s27 ch ma mg) (x : Int) : Mgr (w.setCell ⟨M, 27, none⟩ (.int .i32 x)) M s3 s7 s10 s12 s15 s19 s24 x ch ma mg :=
  ⟨by simpa using h.lt, (World.cell?_setCell_other _ _ _ _ (by simp)).trans h.c3, (World.cell?_setCell_other _ _ _ _ (by simp)).trans h.c7, (World.cell?_setCell_other _ _ _ _ (by simp)).trans h.c10, (World.cell?_setCell_other _ _ _ _ (by simp)).trans h.c12, (World.cell?_setCell_other _ _ _ _ (by simp)).trans h.c15, (World.cell?_setCell_other _ _ _ _ (by simp)).trans h.c19, (World.cell?_setCell_other _ _ _ _ (by simp)).trans h.c24, World.cell?_setCell_same _ _ _ h.c27, (World.cell?_setCell_other _ _ _ _ (by simp)).trans h.c5, (World.cell?_setCell_other _ _ _ _ (by simp)).trans h.c6, (World.cell?_setCell_other _ _ _ _ (by simp)).trans h.c17, (World.cell?_setCell_other _ _ _ _ (by simp)).trans h.c18, (World.cell?_setCell_other _ _ _ _ (by simp)).trans h.c11, (World.cell?_setCell_other _ _ _ _ (by simp)).trans h.c14, (World.cell?_setCell_other _ _ _ _ (by simp)).trans h.c26, (World.cell?_setCell_other _ _ _ _ (by simp)).trans h.c29, fun o => by rw [World.frozen?_setCell]; exact h.fz o⟩
theorem Mgr.new {w : World} {M : Nat} {s3 s7 s10 s12 s15 s19 s24 s27 ch : Int} {ma mg : Value} (h : Mgr w M s3 s7 s10 s12 s15 s19 s24 s27 ch ma mg) (o : Obj) : Mgr (w.alloc o) M s3 s7 s10 s12 s15 s19 s24 s27 ch ma mg :=
  ⟨by have := h.lt; simp; omega, (World.cell?_alloc_past o M 3 h.lt).trans h.c3, (World.cell?_alloc_past o M 7 h.lt).trans h.c7, (World.cell?_alloc_past o M 10 h.lt).trans h.c10, (World.cell?_alloc_past o M 12 h.lt).trans h.c12, (World.cell?_alloc_past o M 15 h.lt).trans h.c15, (World.cell?_alloc_past o M 19 h.lt).trans h.c19, (World.cell?_alloc_past o M 24 h.lt).trans h.c24, (World.cell?_alloc_past o M 27 h.lt).trans h.c27, (World.cell?_alloc_past o M 5 h.lt).trans h.c5, (World.cell?_alloc_past o M 6 h.lt).trans h.c6, (World.cell?_alloc_past o M 17 h.lt).trans h.c17, (World.cell?_alloc_past o M 18 h.lt).trans h.c18, (World.cell?_alloc_past o M 11 h.lt).trans h.c11, (World.cell?_alloc_past o M 14 h.lt).trans h.c14, (World.cell?_alloc_past o M 26 h.lt).trans h.c26, (World.cell?_alloc_past o M 29 h.lt).trans h.c29, fun i => (World.frozen?_alloc_past o M i h.lt).trans (h.fz i)⟩

theorem lock12 {w : World} {M : Nat} {s3 s7 s10 s15 s19 s24 s27 ch : Int} {ma mg : Value} (h : Mgr w M s3 s7 s10 (0) s15 s19 s24 s27 ch ma mg) :
    Calls Ybaz.prog 13 #[.pointer (some ⟨M, 12, none⟩)] w fun e w' => e = .returned (.tuple #[]) ∧ Mgr w' M s3 s7 s10 (1) s15 s19 s24 s27 ch ma mg ∧ Keep M w w' :=
  (lock_free Ybaz.muLib ⟨M, 12, none⟩ w h.c12 (h.fz _)).mono fun _ _ ⟨he, hw⟩ => ⟨he, hw ▸ h.set12 1, hw ▸ Keep.set M w 12 _⟩
theorem unlock12 {w : World} {M : Nat} {s3 s7 s10 s15 s19 s24 s27 ch : Int} {ma mg : Value} (h : Mgr w M s3 s7 s10 (1) s15 s19 s24 s27 ch ma mg) :
    Calls Ybaz.prog 9 #[.pointer (some ⟨M, 12, none⟩)] w fun e w' => e = .returned (.tuple #[]) ∧ Mgr w' M s3 s7 s10 (0) s15 s19 s24 s27 ch ma mg ∧ Keep M w w' :=
  (unlock_held Ybaz.muLib ⟨M, 12, none⟩ w h.c12 (h.fz _)).mono fun _ _ ⟨he, hw⟩ => ⟨he, hw ▸ h.set12 0, hw ▸ Keep.set M w 12 _⟩
theorem lock24 {w : World} {M : Nat} {s3 s7 s10 s12 s15 s19 s27 ch : Int} {ma mg : Value} (h : Mgr w M s3 s7 s10 s12 s15 s19 (0) s27 ch ma mg) :
    Calls Ybaz.prog 13 #[.pointer (some ⟨M, 24, none⟩)] w fun e w' => e = .returned (.tuple #[]) ∧ Mgr w' M s3 s7 s10 s12 s15 s19 (1) s27 ch ma mg ∧ Keep M w w' :=
  (lock_free Ybaz.muLib ⟨M, 24, none⟩ w h.c24 (h.fz _)).mono fun _ _ ⟨he, hw⟩ => ⟨he, hw ▸ h.set24 1, hw ▸ Keep.set M w 24 _⟩
theorem unlock24 {w : World} {M : Nat} {s3 s7 s10 s12 s15 s19 s27 ch : Int} {ma mg : Value} (h : Mgr w M s3 s7 s10 s12 s15 s19 (1) s27 ch ma mg) :
    Calls Ybaz.prog 9 #[.pointer (some ⟨M, 24, none⟩)] w fun e w' => e = .returned (.tuple #[]) ∧ Mgr w' M s3 s7 s10 s12 s15 s19 (0) s27 ch ma mg ∧ Keep M w w' :=
  (unlock_held Ybaz.muLib ⟨M, 24, none⟩ w h.c24 (h.fz _)).mono fun _ _ ⟨he, hw⟩ => ⟨he, hw ▸ h.set24 0, hw ▸ Keep.set M w 24 _⟩
theorem lock27 {w : World} {M : Nat} {s3 s7 s10 s12 s15 s19 s24 ch : Int} {ma mg : Value} (h : Mgr w M s3 s7 s10 s12 s15 s19 s24 (0) ch ma mg) :
    Calls Ybaz.prog 13 #[.pointer (some ⟨M, 27, none⟩)] w fun e w' => e = .returned (.tuple #[]) ∧ Mgr w' M s3 s7 s10 s12 s15 s19 s24 (1) ch ma mg ∧ Keep M w w' :=
  (lock_free Ybaz.muLib ⟨M, 27, none⟩ w h.c27 (h.fz _)).mono fun _ _ ⟨he, hw⟩ => ⟨he, hw ▸ h.set27 1, hw ▸ Keep.set M w 27 _⟩
theorem unlock27 {w : World} {M : Nat} {s3 s7 s10 s12 s15 s19 s24 ch : Int} {ma mg : Value} (h : Mgr w M s3 s7 s10 s12 s15 s19 s24 (1) ch ma mg) :
    Calls Ybaz.prog 9 #[.pointer (some ⟨M, 27, none⟩)] w fun e w' => e = .returned (.tuple #[]) ∧ Mgr w' M s3 s7 s10 s12 s15 s19 s24 (0) ch ma mg ∧ Keep M w w' :=
  (unlock_held Ybaz.muLib ⟨M, 27, none⟩ w h.c27 (h.fz _)).mono fun _ _ ⟨he, hw⟩ => ⟨he, hw ▸ h.set27 0, hw ▸ Keep.set M w 27 _⟩
theorem try12 {w : World} {M : Nat} {s3 s7 s10 s15 s19 s24 s27 ch : Int} {ma mg : Value} (h : Mgr w M s3 s7 s10 (0) s15 s19 s24 s27 ch ma mg) :
    Calls Ybaz.prog 8 #[.pointer (some ⟨M, 12, none⟩)] w fun e w' => e = .returned (.bool true) ∧ Mgr w' M s3 s7 s10 (1) s15 s19 s24 s27 ch ma mg ∧ Keep M w w' :=
  (try_free ⟨M, 12, none⟩ w h.c12 (h.fz _)).mono fun _ _ ⟨he, hw⟩ => ⟨he, hw ▸ h.set12 1, hw ▸ Keep.set M w 12 _⟩
theorem tryHeld12 {w : World} {M : Nat} {s3 s7 s10 s15 s19 s24 s27 ch : Int} {ma mg : Value} (h : Mgr w M s3 s7 s10 (1) s15 s19 s24 s27 ch ma mg) :
    Calls Ybaz.prog 8 #[.pointer (some ⟨M, 12, none⟩)] w fun e w' => e = .returned (.bool false) ∧ Mgr w' M s3 s7 s10 (1) s15 s19 s24 s27 ch ma mg ∧ Keep M w w' :=
  (try_held ⟨M, 12, none⟩ w h.c12).mono fun _ _ ⟨he, hw⟩ => ⟨he, hw ▸ h, hw ▸ Keep.refl M w⟩
theorem try24 {w : World} {M : Nat} {s3 s7 s10 s12 s15 s19 s27 ch : Int} {ma mg : Value} (h : Mgr w M s3 s7 s10 s12 s15 s19 (0) s27 ch ma mg) :
    Calls Ybaz.prog 8 #[.pointer (some ⟨M, 24, none⟩)] w fun e w' => e = .returned (.bool true) ∧ Mgr w' M s3 s7 s10 s12 s15 s19 (1) s27 ch ma mg ∧ Keep M w w' :=
  (try_free ⟨M, 24, none⟩ w h.c24 (h.fz _)).mono fun _ _ ⟨he, hw⟩ => ⟨he, hw ▸ h.set24 1, hw ▸ Keep.set M w 24 _⟩
theorem tryHeld24 {w : World} {M : Nat} {s3 s7 s10 s12 s15 s19 s27 ch : Int} {ma mg : Value} (h : Mgr w M s3 s7 s10 s12 s15 s19 (1) s27 ch ma mg) :
    Calls Ybaz.prog 8 #[.pointer (some ⟨M, 24, none⟩)] w fun e w' => e = .returned (.bool false) ∧ Mgr w' M s3 s7 s10 s12 s15 s19 (1) s27 ch ma mg ∧ Keep M w w' :=
  (try_held ⟨M, 24, none⟩ w h.c24).mono fun _ _ ⟨he, hw⟩ => ⟨he, hw ▸ h, hw ▸ Keep.refl M w⟩
theorem wlock3 {w : World} {M : Nat} {s10 s12 s15 s19 s24 s27 ch : Int} {ma mg : Value} (h : Mgr w M (0) (0) s10 s12 s15 s19 s24 s27 ch ma mg) :
    Calls Ybaz.prog 33 #[.pointer (some ⟨M, 3, none⟩)] w fun e w' => e = .returned (.tuple #[]) ∧ Mgr w' M (1) (-1073741824) s10 s12 s15 s19 s24 s27 ch ma mg ∧ Keep M w w' :=
  (wlock_free Ybaz.rwWLib M 3 _ _ w h.c3 h.c5 h.c6 h.c7 (h.fz _) (h.fz _)).mono fun _ _ ⟨he, hw⟩ => ⟨he, hw ▸ (h.set3 1).set7 (-1073741824), hw ▸ Keep.trans (Keep.set M w 3 _) (Keep.set M _ 7 _)⟩
theorem wunlock3 {w : World} {M : Nat} {s10 s12 s15 s19 s24 s27 ch : Int} {ma mg : Value} (h : Mgr w M (1) (-1073741824) s10 s12 s15 s19 s24 s27 ch ma mg) :
    Calls Ybaz.prog 11 #[.pointer (some ⟨M, 3, none⟩)] w fun e w' => e = .returned (.tuple #[]) ∧ Mgr w' M (0) (0) s10 s12 s15 s19 s24 s27 ch ma mg ∧ Keep M w w' :=
  (wunlock_held Ybaz.rwWLib M 3 _ _ w h.c3 h.c5 h.c6 h.c7 (h.fz _) (h.fz _)).mono fun _ _ ⟨he, hw⟩ => ⟨he, hw ▸ (h.set7 0).set3 0, hw ▸ Keep.trans (Keep.set M w 7 _) (Keep.set M _ 3 _)⟩
theorem rwtry3 {w : World} {M : Nat} {s10 s12 s15 s19 s24 s27 ch : Int} {ma mg : Value} (h : Mgr w M (0) (0) s10 s12 s15 s19 s24 s27 ch ma mg) :
    Calls Ybaz.prog 10 #[.pointer (some ⟨M, 3, none⟩)] w fun e w' => e = .returned (.bool true) ∧ Mgr w' M (1) (-1073741824) s10 s12 s15 s19 s24 s27 ch ma mg ∧ Keep M w w' :=
  (rwtry_free M 3 _ _ w h.c3 h.c5 h.c6 h.c7 h.fz).mono fun _ _ ⟨he, hw⟩ => ⟨he, hw ▸ (h.set3 1).set7 (-1073741824), hw ▸ Keep.trans (Keep.set M w 3 _) (Keep.set M _ 7 _)⟩
theorem rwtryHeld3 {w : World} {M : Nat} {s10 s12 s15 s19 s24 s27 ch : Int} {ma mg : Value} (h : Mgr w M (1) (-1073741824) s10 s12 s15 s19 s24 s27 ch ma mg) :
    Calls Ybaz.prog 10 #[.pointer (some ⟨M, 3, none⟩)] w fun e w' => e = .returned (.bool false) ∧ Mgr w' M (1) (-1073741824) s10 s12 s15 s19 s24 s27 ch ma mg ∧ Keep M w w' :=
  (rwtry_held M 3 w h.c3).mono fun _ _ ⟨he, hw⟩ => ⟨he, hw ▸ h, hw ▸ Keep.refl M w⟩
theorem rtryHeld3 {w : World} {M : Nat} {s10 s12 s15 s19 s24 s27 ch : Int} {ma mg : Value} (h : Mgr w M (1) (-1073741824) s10 s12 s15 s19 s24 s27 ch ma mg) :
    Calls Ybaz.prog 16 #[.pointer (some ⟨M, 3, none⟩)] w fun e w' => e = .returned (.bool false) ∧ Mgr w' M (1) (-1073741824) s10 s12 s15 s19 s24 s27 ch ma mg ∧ Keep M w w' :=
  (rtry_held M 3 _ w h.c3 h.c7).mono fun _ _ ⟨he, hw⟩ => ⟨he, hw ▸ h, hw ▸ Keep.refl M w⟩
theorem wlock15 {w : World} {M : Nat} {s3 s7 s10 s12 s24 s27 ch : Int} {ma mg : Value} (h : Mgr w M s3 s7 s10 s12 (0) (0) s24 s27 ch ma mg) :
    Calls Ybaz.prog 33 #[.pointer (some ⟨M, 15, none⟩)] w fun e w' => e = .returned (.tuple #[]) ∧ Mgr w' M s3 s7 s10 s12 (1) (-1073741824) s24 s27 ch ma mg ∧ Keep M w w' :=
  (wlock_free Ybaz.rwWLib M 15 _ _ w h.c15 h.c17 h.c18 h.c19 (h.fz _) (h.fz _)).mono fun _ _ ⟨he, hw⟩ => ⟨he, hw ▸ (h.set15 1).set19 (-1073741824), hw ▸ Keep.trans (Keep.set M w 15 _) (Keep.set M _ 19 _)⟩
theorem wunlock15 {w : World} {M : Nat} {s3 s7 s10 s12 s24 s27 ch : Int} {ma mg : Value} (h : Mgr w M s3 s7 s10 s12 (1) (-1073741824) s24 s27 ch ma mg) :
    Calls Ybaz.prog 11 #[.pointer (some ⟨M, 15, none⟩)] w fun e w' => e = .returned (.tuple #[]) ∧ Mgr w' M s3 s7 s10 s12 (0) (0) s24 s27 ch ma mg ∧ Keep M w w' :=
  (wunlock_held Ybaz.rwWLib M 15 _ _ w h.c15 h.c17 h.c18 h.c19 (h.fz _) (h.fz _)).mono fun _ _ ⟨he, hw⟩ => ⟨he, hw ▸ (h.set19 0).set15 0, hw ▸ Keep.trans (Keep.set M w 19 _) (Keep.set M _ 15 _)⟩
theorem rwtry15 {w : World} {M : Nat} {s3 s7 s10 s12 s24 s27 ch : Int} {ma mg : Value} (h : Mgr w M s3 s7 s10 s12 (0) (0) s24 s27 ch ma mg) :
    Calls Ybaz.prog 10 #[.pointer (some ⟨M, 15, none⟩)] w fun e w' => e = .returned (.bool true) ∧ Mgr w' M s3 s7 s10 s12 (1) (-1073741824) s24 s27 ch ma mg ∧ Keep M w w' :=
  (rwtry_free M 15 _ _ w h.c15 h.c17 h.c18 h.c19 h.fz).mono fun _ _ ⟨he, hw⟩ => ⟨he, hw ▸ (h.set15 1).set19 (-1073741824), hw ▸ Keep.trans (Keep.set M w 15 _) (Keep.set M _ 19 _)⟩
theorem rwtryHeld15 {w : World} {M : Nat} {s3 s7 s10 s12 s24 s27 ch : Int} {ma mg : Value} (h : Mgr w M s3 s7 s10 s12 (1) (-1073741824) s24 s27 ch ma mg) :
    Calls Ybaz.prog 10 #[.pointer (some ⟨M, 15, none⟩)] w fun e w' => e = .returned (.bool false) ∧ Mgr w' M s3 s7 s10 s12 (1) (-1073741824) s24 s27 ch ma mg ∧ Keep M w w' :=
  (rwtry_held M 15 w h.c15).mono fun _ _ ⟨he, hw⟩ => ⟨he, hw ▸ h, hw ▸ Keep.refl M w⟩
theorem rtryHeld15 {w : World} {M : Nat} {s3 s7 s10 s12 s24 s27 ch : Int} {ma mg : Value} (h : Mgr w M s3 s7 s10 s12 (1) (-1073741824) s24 s27 ch ma mg) :
    Calls Ybaz.prog 16 #[.pointer (some ⟨M, 15, none⟩)] w fun e w' => e = .returned (.bool false) ∧ Mgr w' M s3 s7 s10 s12 (1) (-1073741824) s24 s27 ch ma mg ∧ Keep M w w' :=
  (rtry_held M 15 _ w h.c15 h.c19).mono fun _ _ ⟨he, hw⟩ => ⟨he, hw ▸ h, hw ▸ Keep.refl M w⟩
theorem load10 {w : World} {M : Nat} {s3 s7 s10 s12 s15 s19 s24 s27 ch : Int} {ma mg : Value} (h : Mgr w M s3 s7 s10 s12 s15 s19 s24 s27 ch ma mg) :
    Calls Ybaz.prog 12 #[.pointer (some ⟨M, 10, none⟩)] w fun e w' => e = .returned (.int .i32 s10) ∧ Mgr w' M s3 s7 s10 s12 s15 s19 s24 s27 ch ma mg ∧ Keep M w w' :=
  (load_any ⟨M, 10, none⟩ s10 w h.c10).mono fun _ _ ⟨he, hw⟩ => ⟨he, hw ▸ h, hw ▸ Keep.refl M w⟩
theorem up10 {w : World} {M : Nat} {s3 s7 s12 s15 s19 s24 s27 ch : Int} {ma mg : Value} (h : Mgr w M s3 s7 (0) s12 s15 s19 s24 s27 ch ma mg) :
    Calls Ybaz.prog 27 #[.pointer (some ⟨M, 10, none⟩), .int .i32 1] w fun e w' => e = .returned (.int .i32 1) ∧ Mgr w' M s3 s7 (1) s12 s15 s19 s24 s27 ch ma mg ∧ Keep M w w' :=
  (add_up ⟨M, 10, none⟩ w h.c10 (h.fz _)).mono fun _ _ ⟨he, hw⟩ => ⟨he, hw ▸ h.set10 1, hw ▸ Keep.set M w 10 _⟩
theorem down10 {w : World} {M : Nat} {s3 s7 s12 s15 s19 s24 s27 ch : Int} {ma mg : Value} (h : Mgr w M s3 s7 (1) s12 s15 s19 s24 s27 ch ma mg) :
    Calls Ybaz.prog 27 #[.pointer (some ⟨M, 10, none⟩), .int .i32 (-1)] w fun e w' => e = .returned (.int .i32 0) ∧ Mgr w' M s3 s7 (0) s12 s15 s19 s24 s27 ch ma mg ∧ Keep M w w' :=
  (add_down ⟨M, 10, none⟩ w h.c10 (h.fz _)).mono fun _ _ ⟨he, hw⟩ => ⟨he, hw ▸ h.set10 0, hw ▸ Keep.set M w 10 _⟩
end Go.Proofs.YbulkddveGreat.Mg
