/-
  The walks of the law's callees, out of the lock contracts.
-/
import Derived.Test.YbulkddveGreatMg
import Derived.Laws.EntriesVeiled
import Derived.MapKept
namespace Go.Proofs.YbulkddveGreat.Walks
open Go.ChangeShapes Go.WideShapes Go.ChangeAt Go.RowKit Mg
set_option maxRecDepth 100000

set_option maxHeartbeats 1000000 in
theorem allfree {w : World} {M : Nat} {ch : Int} {ma mg : Value} (h : Mgr w M (0) (0) (0) (0) (0) (0) (0) (0) ch ma mg) :
    Calls Ybaz.prog 5 #[.pointer (some ⟨M, 0, none⟩)] w fun e w' => e = .returned (.bool true) ∧ Mgr w' M (0) (0) (0) (0) (0) (0) (0) (0) ch ma mg ∧ Keep M w w' := by
  go_enter Ybaz.func5, Ybaz.ntmps5
  go_wp2_with fail
  refine (try12 h).mono ?_
  rintro e w1 ⟨rfl, h1, k1⟩
  go_wp2_with fail
  refine (unlock12 h1).mono ?_
  rintro e w2 ⟨rfl, h2, k2⟩
  have k2 := k1.trans k2
  clear h1
  go_wp2_with fail
  refine (try24 h2).mono ?_
  rintro e w3 ⟨rfl, h3, k3⟩
  have k3 := k2.trans k3
  clear h2
  go_wp2_with fail
  refine (unlock24 h3).mono ?_
  rintro e w4 ⟨rfl, h4, k4⟩
  have k4 := k3.trans k4
  clear h3
  go_wp2_with fail
  refine (rwtry15 h4).mono ?_
  rintro e w5 ⟨rfl, h5, k5⟩
  have k5 := k4.trans k5
  clear h4
  go_wp2_with fail
  refine (wunlock15 h5).mono ?_
  rintro e w6 ⟨rfl, h6, k6⟩
  have k6 := k5.trans k6
  clear h5
  go_wp2_with fail
  refine (rwtry3 h6).mono ?_
  rintro e w7 ⟨rfl, h7, k7⟩
  have k7 := k6.trans k7
  clear h6
  go_wp2_with fail
  refine (wunlock3 h7).mono ?_
  rintro e w8 ⟨rfl, h8, k8⟩
  have k8 := k7.trans k8
  clear h7
  go_wp2_with fail
  refine (load10 h8).mono ?_
  rintro e w9 ⟨rfl, h9, k9⟩
  have k9 := k8.trans k9
  clear h8
  go_wp2
  go_ret
  exact ⟨rfl, h9, k9⟩

set_option maxHeartbeats 1000000 in
theorem allheld {w : World} {M : Nat} {ch : Int} {ma mg : Value} (h : Mgr w M (1) (-1073741824) (0) (1) (1) (-1073741824) (1) (0) ch ma mg) :
    Calls Ybaz.prog 7 #[.pointer (some ⟨M, 0, none⟩)] w fun e w' => e = .returned (.bool true) ∧ Mgr w' M (1) (-1073741824) (0) (1) (1) (-1073741824) (1) (0) ch ma mg ∧ Keep M w w' := by
  go_enter Ybaz.func7, Ybaz.ntmps7
  go_wp2_with fail
  refine (tryHeld12 h).mono ?_
  rintro e w1 ⟨rfl, h1, k1⟩
  go_wp2_with fail
  refine (tryHeld24 h1).mono ?_
  rintro e w2 ⟨rfl, h2, k2⟩
  have k2 := k1.trans k2
  clear h1
  go_wp2_with fail
  refine (rwtryHeld15 h2).mono ?_
  rintro e w3 ⟨rfl, h3, k3⟩
  have k3 := k2.trans k3
  clear h2
  go_wp2_with fail
  refine (rtryHeld15 h3).mono ?_
  rintro e w4 ⟨rfl, h4, k4⟩
  have k4 := k3.trans k4
  clear h3
  go_wp2_with fail
  refine (rwtryHeld3 h4).mono ?_
  rintro e w5 ⟨rfl, h5, k5⟩
  have k5 := k4.trans k5
  clear h4
  go_wp2_with fail
  refine (rtryHeld3 h5).mono ?_
  rintro e w6 ⟨rfl, h6, k6⟩
  have k6 := k5.trans k6
  clear h5
  go_wp2_with fail
  refine (load10 h6).mono ?_
  rintro e w7 ⟨rfl, h7, k7⟩
  have k7 := k6.trans k7
  clear h6
  go_wp2
  go_ret
  exact ⟨rfl, h7, k7⟩

theorem latchLock {w : World} {M : Nat} {ch : Int} {ma mg : Value} (h : Mgr w M (0) (0) (0) (1) (1) (-1073741824) (1) (0) ch ma mg) :
    Calls Ybaz.prog 34 #[.pointer (some ⟨M, 3, none⟩)] w fun e w' => e = .returned (.tuple #[]) ∧ Mgr w' M (1) (-1073741824) (0) (1) (1) (-1073741824) (1) (0) ch ma mg ∧ Keep M w w' := by
  go_enter Ybaz.func34, Ybaz.ntmps34
  go_wp2_with fail
  refine (up10 h).mono ?_
  rintro e w1 ⟨rfl, h1, k1⟩
  go_wp2_with fail
  refine (wlock3 h1).mono ?_
  rintro e w2 ⟨rfl, h2, k2⟩
  have k2 := k1.trans k2
  clear h1
  go_wp2_with fail
  refine (down10 h2).mono ?_
  rintro e w3 ⟨rfl, h3, k3⟩
  have k3 := k2.trans k3
  clear h2
  go_wp2
  go_end0
  exact ⟨rfl, h3, k3⟩

theorem publish {w : World} {M : Nat} {ch : Int} {ma mg : Value} (h : Mgr w M (0) (0) (0) (1) (0) (0) (1) (0) ch ma mg) :
    Calls Ybaz.prog 32 #[.pointer (some ⟨M, 0, none⟩)] w fun e w' => e = .returned (.tuple #[]) ∧ Mgr w' M (0) (0) (0) (1) (0) (0) (1) (0) ch ma mg ∧ Keep M w w' := by
  go_enter_defers Ybaz.func32, Ybaz.ntmps32
  go_wp2_with fail
  refine (lock27 h).mono ?_
  rintro e w1 ⟨rfl, h1, k1⟩
  have c29 := h1.c29
  go_wp2_with fail
  refine (unlock27 h1).mono ?_
  rintro e w2 ⟨rfl, h2, k2⟩
  go_wp2
  exact ⟨_, results_none rfl _ _ _, rfl, h2, k1.trans k2⟩

/-- inPlace's closure: it lets all three go again. -/
theorem inPlace1 {w : World} {M B : Nat} {ch : Int} {ma mg : Value} (h : Mgr w M (1) (-1073741824) (0) (1) (1) (-1073741824) (1) (0) ch ma mg) (hB : w.cell? ⟨B, 0, none⟩ = some (.pointer (some ⟨M, 0, none⟩))) (hne : B ≠ M) (hlt : B < w.heap.size) :
    Calls Ybaz.prog 35 #[.pointer (some ⟨B, 0, none⟩)] w fun e w' => e = .returned (.tuple #[]) ∧ Mgr w' M (0) (0) (0) (1) (0) (0) (0) (0) ch ma mg ∧ Keep M w w' := by
  go_enter Ybaz.func35, Ybaz.ntmps35
  go_wp2_with fail
  refine (wunlock3 h).mono ?_
  rintro e w1 ⟨rfl, h1, k1⟩
  have b1 := (k1.cell B 0 hne hlt).trans hB
  go_wp2_with fail
  refine (wunlock15 h1).mono ?_
  rintro e w2 ⟨rfl, h2, k2⟩
  have k2 := k1.trans k2
  have b2 := (k2.cell B 0 hne hlt).trans hB
  go_wp2_with fail
  refine (unlock24 h2).mono ?_
  rintro e w3 ⟨rfl, h3, k3⟩
  go_wp2
  go_end0
  exact ⟨rfl, h3, k2.trans k3⟩

theorem inPlace {w : World} {M : Nat} {ch : Int} {ma mg : Value} (h : Mgr w M (0) (0) (0) (1) (0) (0) (0) (0) ch ma mg) :
    Calls Ybaz.prog 14 #[.pointer (some ⟨M, 0, none⟩)] w fun e w' => e = .returned (.func (Fn.func 35) #[] #[.pointer (some ⟨w.heap.size, 0, none⟩)]) ∧ Mgr w' M (1) (-1073741824) (0) (1) (1) (-1073741824) (1) (0) ch ma mg ∧ Keep M w w' ∧ w'.cell? ⟨w.heap.size, 0, none⟩ = some (.pointer (some ⟨M, 0, none⟩)) ∧ w.heap.size < w'.heap.size := by
  have lt := h.lt
  have hne : w.heap.size ≠ M := by omega
  have h0 := h.new (.cells #[.pointer (some ⟨M, 0, none⟩)] 23)
  have k0 := Keep.new M w (.cells #[.pointer (some ⟨M, 0, none⟩)] 23)
  have b0 : (w.alloc (.cells #[.pointer (some ⟨M, 0, none⟩)] 23)).cell? ⟨w.heap.size, 0, none⟩ = some (.pointer (some ⟨M, 0, none⟩)) := by simp
  have z0 : w.heap.size < (w.alloc (.cells #[.pointer (some ⟨M, 0, none⟩)] 23)).heap.size := by simp
  go_enter Ybaz.func14, Ybaz.ntmps14
  go_wp2_with fail
  refine (lock24 h0).mono ?_
  rintro e w1 ⟨rfl, h1, k1⟩
  have b1 := (k1.cell w.heap.size 0 hne z0).trans b0
  have kk1 := k0.trans k1
  go_wp2_with fail
  refine (publish h1).mono ?_
  rintro e w2 ⟨rfl, h2, k2⟩
  have b2 := (k2.cell w.heap.size 0 hne (Nat.lt_of_lt_of_le z0 k1.size)).trans b1
  have kk2 := kk1.trans k2
  go_wp2_with fail
  refine (wlock15 h2).mono ?_
  rintro e w3 ⟨rfl, h3, k3⟩
  have b3 := (k3.cell w.heap.size 0 hne (Nat.lt_of_lt_of_le z0 (k1.trans k2).size)).trans b2
  have kk3 := kk2.trans k3
  go_wp2_with fail
  refine (latchLock h3).mono ?_
  rintro e w4 ⟨rfl, h4, k4⟩
  have b4 := (k4.cell w.heap.size 0 hne (Nat.lt_of_lt_of_le z0 ((k1.trans k2).trans k3).size)).trans b3
  have zz := Nat.lt_of_lt_of_le z0 (((k1.trans k2).trans k3).trans k4).size
  go_wp2
  go_ret
  exact ⟨rfl, h4, kk3.trans k4, b4, zz⟩

/-- what 'exclusive' leaves for its closure: the cell C with inPlace's closure, the cells B and D with the manager's address -/
structure Rel (w : World) (M C B D : Nat) : Prop where
  cc : w.cell? ⟨C, 0, none⟩ = some (.func (Fn.func 35) #[] #[.pointer (some ⟨D, 0, none⟩)])
  cb : w.cell? ⟨B, 0, none⟩ = some (.pointer (some ⟨M, 0, none⟩))
  cd : w.cell? ⟨D, 0, none⟩ = some (.pointer (some ⟨M, 0, none⟩))
  nc : C ≠ M
  nb : B ≠ M
  nd : D ≠ M
  lc : C < w.heap.size
  lb : B < w.heap.size
  ld : D < w.heap.size
theorem Rel.keep {w w' : World} {M C B D : Nat} (r : Rel w M C B D) (k : Keep M w w') : Rel w' M C B D :=
  ⟨(k.cell C 0 r.nc r.lc).trans r.cc, (k.cell B 0 r.nb r.lb).trans r.cb, (k.cell D 0 r.nd r.ld).trans r.cd, r.nc, r.nb, r.nd, Nat.lt_of_lt_of_le r.lc k.size, Nat.lt_of_lt_of_le r.lb k.size, Nat.lt_of_lt_of_le r.ld k.size⟩

theorem exclusive1 {w : World} {M C B D : Nat} {ch : Int} {ma mg : Value} (h : Mgr w M (1) (-1073741824) (0) (1) (1) (-1073741824) (1) (0) ch ma mg) (r : Rel w M C B D) :
    Calls Ybaz.prog 15 #[.pointer (some ⟨C, 0, none⟩), .pointer (some ⟨B, 0, none⟩)] w fun e w' => e = .returned (.tuple #[]) ∧ Mgr w' M (0) (0) (0) (0) (0) (0) (0) (0) ch ma mg ∧ Keep M w w' := by
  have cc := r.cc
  go_enter Ybaz.func15, Ybaz.ntmps15
  go_wp2_with fail
  refine (inPlace1 h r.cd r.nd r.ld).mono ?_
  rintro e w1 ⟨rfl, h1, k1⟩
  have b1 := (k1.cell B 0 r.nb r.lb).trans r.cb
  go_wp2_with fail
  refine (unlock12 h1).mono ?_
  rintro e w2 ⟨rfl, h2, k2⟩
  go_wp2
  go_end0
  exact ⟨rfl, h2, k1.trans k2⟩

theorem exclusive {w : World} {M : Nat} {ch : Int} {ma mg : Value} (h : Mgr w M (0) (0) (0) (0) (0) (0) (0) (0) ch ma mg) :
    Calls Ybaz.prog 6 #[.pointer (some ⟨M, 0, none⟩)] w fun e w' => ∃ C B D, e = .returned (.func (Fn.func 15) #[] #[.pointer (some ⟨C, 0, none⟩), .pointer (some ⟨B, 0, none⟩)]) ∧ Mgr w' M (1) (-1073741824) (0) (1) (1) (-1073741824) (1) (0) ch ma mg ∧ Keep M w w' ∧ Rel w' M C B D := by
  have lt := h.lt
  have hne : w.heap.size ≠ M := by omega
  have h0 := h.new (.cells #[.pointer (some ⟨M, 0, none⟩)] 23)
  have k0 := Keep.new M w (.cells #[.pointer (some ⟨M, 0, none⟩)] 23)
  have b0 : (w.alloc (.cells #[.pointer (some ⟨M, 0, none⟩)] 23)).cell? ⟨w.heap.size, 0, none⟩ = some (.pointer (some ⟨M, 0, none⟩)) := by simp
  have z0 : w.heap.size < (w.alloc (.cells #[.pointer (some ⟨M, 0, none⟩)] 23)).heap.size := by simp
  go_enter Ybaz.func6, Ybaz.ntmps6
  go_wp2_with fail
  refine (lock12 h0).mono ?_
  rintro e w1 ⟨rfl, h1, k1⟩
  have b1 := (k1.cell w.heap.size 0 hne z0).trans b0
  have z1 := Nat.lt_of_lt_of_le z0 k1.size
  have lt1 := h1.lt
  go_wp2_with fail
  refine (inPlace h1).mono ?_
  rintro e w2 ⟨rfl, h2, k2, d2, zd⟩
  have b2 := (k2.cell w.heap.size 0 hne z1).trans b1
  have z2 := Nat.lt_of_lt_of_le z1 k2.size
  go_wp2
  go_ret
  have lt2 := h2.lt
  refine ⟨w2.heap.size, w.heap.size, w1.heap.size, rfl, h2.new _, (k0.trans (k1.trans k2)).trans (Keep.new M _ _), ⟨?_, ?_, ?_, by omega, by omega, by omega, by simp, by simp; omega, by simp; omega⟩⟩
  · simp
  · rw [World.cell?_alloc_past _ _ _ z2]; exact b2
  · rw [World.cell?_alloc_past _ _ _ zd]; exact d2

theorem heap_new (w : World) (o : Obj) : (w.alloc o).heap[w.heap.size]? = some o := by
  show (w.heap.push o)[w.heap.size]? = some o
  rw [Array.getElem?_push, if_pos rfl]
theorem heap_old (w : World) (o : Obj) (k : Nat) (h : k < w.heap.size) : (w.alloc o).heap[k]? = w.heap[k]? := by
  show (w.heap.push o)[k]? = w.heap[k]?
  rw [Array.getElem?_push, if_neg (by omega)]

theorem anew (w : World) :
    Calls Ybaz.prog 4 #[] w fun e w' => e = .returned (.pointer (some ⟨w.heap.size + 1 + 1 + 1 + 1 + 1, 0, none⟩)) ∧ Mgr w' (w.heap.size + 1 + 1 + 1 + 1 + 1) (0) (0) (0) (0) (0) (0) (0) (0) 0 (.map (some w.heap.size)) (.map (some (w.heap.size + 1 + 1))) ∧ Below w.heap.size w w' ∧
      w'.heap[w.heap.size]? = some (.map #[] 0) ∧ w'.heap[w.heap.size + 1 + 1]? = some (.map #[] 0) := by
  have hmm := @run_makeMap Ybaz.prog
  go_enter Ybaz.func4, Ybaz.ntmps4
  go_wp2
  go_ret
  refine ⟨rfl, ⟨by simp, by simp [go_sem], by simp [go_sem], by simp [go_sem], by simp [go_sem], by simp [go_sem], by simp [go_sem], by simp [go_sem], by simp [go_sem], by simp [go_sem], by simp [go_sem], by simp [go_sem], by simp [go_sem], by simp [go_sem], by simp [go_sem], by simp [go_sem], by simp [go_sem], fun o => by simp [go_sem]⟩, ?_, ?_, ?_⟩
  · exact ((((((Below.refl _ _).alloc (by simp) _).alloc (by simp) _).alloc (by simp; omega) _).alloc (by simp; omega) _).alloc (by simp; omega) _).alloc (by simp; omega) _
  · rw [heap_old _ _ _ (by simp; omega), heap_old _ _ _ (by simp; omega), heap_old _ _ _ (by simp; omega), heap_old _ _ _ (by simp; omega), heap_old _ _ _ (by simp), heap_new]
  · have z : ((w.alloc (.map #[] 0)).alloc (.map #[] 0)).heap.size = w.heap.size + 1 + 1 := by simp
    rw [heap_old _ _ _ (by simp), heap_old _ _ _ (by simp), heap_old _ _ _ (by simp), ← z]
    exact heap_new ((w.alloc (.map #[] 0)).alloc (.map #[] 0)) _

theorem len_map (b : Nat) (w : World) (hb : w.heap[b]? = some (.map #[] 0)) : (Builtin.len_ #[42] 3 #[.map (some b)]).run Ybaz.prog w = .ok (.int .i64 0) w := by
  simp [Builtin.len_, run_underlying Ybaz.underlying42, MapKept.run_getObj_map hb, goInt, Result.andThen]
end Go.Proofs.YbulkddveGreat.Walks
