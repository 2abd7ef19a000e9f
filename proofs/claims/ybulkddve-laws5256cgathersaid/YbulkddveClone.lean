/-
  For the walk of the law: the clone as a row of the call's own; the frame past it.
-/
import Derived.Test.YbulkddveRound
namespace Go.Proofs.Ybulkddve.Law
open Go.ChangeShapes Go.WideShapes Go.ChangeAt Go.RowKit Own Plain Parts Runs Gather
set_option maxRecDepth 100000

theorem clone_own (v : Value) (xs : List Int) (w : World) (h : Lies w v xs) (hlen : xs.length ≤ 4194304) :
    Calls Yba.prog 4 #[v] w fun e w' => ∃ v', e = .returned v' ∧ w'.ownsRow w.heap.size 5 1 v' xs.length (xs.map (Value.int .u8)) ∧ Below w.heap.size w w' := by
  rcases h with ⟨rfl, rfl⟩ | ⟨b, off, c, rfl, hc⟩
  · exact (clone_nil w).mono fun e w' ⟨he, hw⟩ => ⟨_, he, hw ▸ World.ownsRow_nil _ _ _ _, hw ▸ Below.refl _ _⟩
  have hq : ∀ w, (binOp .eql 23 (.slice (some ⟨b, off, none⟩) xs.length c) (.slice none 0 0)).run Yba.prog w = .ok (.bool false) w := fun w => by kernel_rfl
  obtain ⟨i5, hi, hz, hsz, hby⟩ := info5
  have hnews : ∀ (o : Obj) j u, (xs.map (Value.int .u8))[j]? = some u → (w.alloc o).cell? ((⟨b, off, none⟩ : Addr).add j) = some u := by
    intro o j u hj
    rw [List.getElem?_map] at hj
    have hjl : j < xs.length := by
      by_cases hjl : j < xs.length
      · exact hjl
      · rw [List.getElem?_eq_none (by omega)] at hj; simp at hj
    have h0 := hc j hjl
    rw [List.getElem?_eq_getElem hjl] at hj
    simp at hj
    have ad : (⟨b, off, none⟩ : Addr).add j = ⟨b, off + j, none⟩ := by unfold Addr.add; split <;> simp_all
    rw [ad, World.cell?_alloc_past o b (off + j) (World.block_lt_of_cell? w _ h0), h0, ← hj]
    simp [List.getD, hjl]
  have hown := World.ownsRow_made (base := w.heap.size) (e := 5) (size := 1) w #[] 0 (Nat.le_refl _) (by unfold maxLen; omega) rfl
  go_enter Yba.func4, Yba.ntmps4
  go_wp2_with (at_builtin; refine wpList_append_own_at _ rfl _ _ 23 rfl w.heap.size 5 i5 (.int .u8 0) 1 1 Yba.underlying23 hi hz hsz hby rfl (by decide) _ 0 [] rfl hown ⟨b, off, none⟩ xs.length c (xs.map (Value.int .u8)) rfl (by simp) (hnews _) (fun u hu => by simp at hu; obtain ⟨y, _, rfl⟩ := hu; rfl) (by unfold maxLen; omega) (by omega) (by simp) ?_; intro v' w3 hown3 hg3 hnil3 hat3)
  go_ret
  refine ⟨_, rfl, by simpa using hown3, ?_⟩
  have h1 : Below w.heap.size w (w.alloc (.cells #[] 5)) := (Below.refl _ _).alloc (Nat.le_refl _) _
  refine h1.trans ⟨hg3.os, hg3.tape, hg3.output, hg3.size, fun k hk => hg3.block k (by simp; omega) (fun e => ?_)⟩
  have e' : k = w.heap.size := Option.some.inj e
  omega

section
variable {w : World} {N S : Nat} {vrs vb : Value} {G : Nat} {l : List Rw} {wr w1 : World}
theorem Fr.past (h : Fr w N S vrs vb G l wr) (hb : Below wr.heap.size wr w1) : Fr w N S vrs vb G l w1 := by
  have g : wr.grownBy w1 none := ⟨hb.os, hb.tape, hb.output, hb.size, fun k hk _ => hb.block k hk⟩
  exact ⟨h.ks.grown g h.rows.lt (by simp), h.rows.grown g (fun r _ => by cases hv : r.v.ownBlock with | none => exact .inl rfl | some b => exact .inr (by simp)), h.below.trans (below_grown g h.hN (by simp))⟩

theorem Fr.newRow {e : TypeId} {sz n : Nat} {v : Value} {xs : List Value} (h : Fr w N S vrs vb G l wr) (hb : Below wr.heap.size wr w1) (ho : w1.ownsRow wr.heap.size e sz v n xs) : Fr w N S vrs vb G (⟨e, sz, v, n, xs⟩ :: l) w1 := by
  have h1 := h.past hb
  have hl := ho.lt
  have ho' : w1.ownsRow N e sz v n xs := by
    obtain ⟨a, c⟩ := ho
    refine ⟨a, ?_⟩
    rcases c with c | ⟨g, cap, cur, c1, c2, c3⟩
    · exact .inl c
    · exact .inr ⟨g, cap, cur, c1, Nat.le_trans h.hN c2, c3⟩
  refine ⟨h1.ks, ⟨?_, ?_, ?_, h1.rows.lt, h1.rows.le⟩, h1.below⟩
  · intro r hr
    rcases List.mem_cons.1 hr with rfl | hr
    · exact ho'
    · exact h1.rows.own r hr
  · refine List.pairwise_cons.2 ⟨fun s hs => ?_, h1.rows.apart⟩
    cases hv2 : v.ownBlock with
    | none => exact .inl hv2
    | some g =>
      refine .inr fun e => ?_
      have e' : v.ownBlock = s.v.ownBlock := e
      have k1 := ((h.rows.own s hs).lt g (e'.symm.trans hv2)).2
      have k2 := (hl g hv2).1
      omega
  · intro r hr
    rcases List.mem_cons.1 hr with rfl | hr
    · intro e
      have k2 := (hl S e).1
      have := h.rows.lt
      omega
    · exact h1.rows.noS r hr
end
end Go.Proofs.Ybulkddve.Law
