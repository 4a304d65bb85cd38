/-
  The fields that LawS0427AStruct builds (VB).
-/
import Derived.Test.YbulkhuyNb
namespace Go.Proofs.Ybulkhuy
open Go.RowKit

/-- One field's block. -/
structure FA (W : World) (L P i : Nat) (V nm kd tg N : Nat → Nat) : Prop where
  lt : L < V i
  o : ObjAt W (V i) P (nm i)
  e : W.cell? ⟨V i, 8, none⟩ = some (.bool (decide (kd i ≠ 0)))
  t1 : kd i = 1 → W.cell? ⟨V i, 1, none⟩ = some (.iface 30 (.pointer (some ⟨N (tg i), 0, none⟩)))
  t2 : kd i = 2 → ∃ Q, L < Q ∧ W.cell? ⟨V i, 1, none⟩ = some (.iface 57 (.pointer (some ⟨Q, 0, none⟩))) ∧ W.cell? ⟨Q, 0, none⟩ = some (.iface 30 (.pointer (some ⟨N (tg i), 0, none⟩)))

theorem FA.fr {W W' : World} {L P i : Nat} {V nm kd tg N : Nat → Nat} (h : FA W L P i V nm kd tg N) (hf : Fr (· = L) W W') : FA W' L P i V nm kd tg N := by
  have key : ∀ (p : Addr) (v : Value), W.cell? p = some v → L < p.block → W'.cell? p = some v := fun p v hp hl => (hf.cell (p := p) (World.block_lt_of_cell? W _ hp) (by omega)).trans hp
  exact ⟨h.lt, ⟨key _ _ h.o.1 h.lt, key _ _ h.o.2 h.lt⟩, key _ _ h.e h.lt, fun hk => key _ _ (h.t1 hk) h.lt, fun hk => by
    obtain ⟨Q, h1, h2, h3⟩ := h.t2 hk
    exact ⟨Q, h1, key _ _ h2 h.lt, key _ _ h3 h1⟩⟩
theorem FA.congr {W : World} {L P i : Nat} {V V' nm kd tg N : Nat → Nat} (h : FA W L P i V nm kd tg N) (e : V' i = V i) : FA W L P i V' nm kd tg N := by
  refine ⟨?_, ?_, ?_, ?_, ?_⟩
  · rw [e]; exact h.lt
  · rw [e]; exact h.o
  · rw [e]; exact h.e
  · rw [e]; exact h.t1
  · rw [e]; exact h.t2

structure VB (W5 wr : World) (L P n k : Nat) (V nm kd tg N : Nat → Nat) : Prop where
  fr : Fr (· = L) W5 wr
  row : wr.rowIs L 54 n (fun j => if j < k then .pointer (some ⟨V j, 0, none⟩) else .pointer none)
  fa : ∀ j, j < k → FA wr L P j V nm kd tg N

theorem VB.start (wr : World) (P n : Nat) (nm kd tg N : Nat → Nat) : VB (wr.alloc (.cells (madeCells #[.pointer none] n) 54)) (wr.alloc (.cells (madeCells #[.pointer none] n) 54)) wr.heap.size P n 0 (fun _ => 0) nm kd tg N :=
  ⟨Fr.refl _ _, (World.rowIs_made wr (.pointer none) n 54).congr (fun i _ => by simp), fun j hj => absurd hj (Nat.not_lt_zero _)⟩

/-- One more field: its block vb lies in wx. -/
theorem VB.step {W5 wr wx wx' : World} {L P n k vb : Nat} {V nm kd tg N : Nat → Nat} (h : VB W5 wr L P n k V nm kd tg N) (hx : Fr (· = L) wx' wx) (hwx : wx' = wr) (hrow : wx.heap[L]? = (wr.setCell ⟨L, k, none⟩ (.pointer (some ⟨vb, 0, none⟩))).heap[L]?) (hfa : FA wx L P k (fun _ => vb) nm kd tg N) :
    VB W5 wx L P n (k + 1) (fun j => if j = k then vb else V j) nm kd tg N := by
  subst hwx
  refine ⟨h.fr.trans hx, ?_, fun j hj => ?_⟩
  · refine ((h.row.set k _).of_block hrow).congr (fun i _ => ?_)
    by_cases e : i = k
    · simp [e]
    · have : (i < k + 1) = (i < k) := by simp; omega
      simp [e, this]
  · by_cases e : j = k
    · subst e
      exact hfa.congr (by simp)
    · exact ((h.fa j (by omega)).fr hx).congr (by simp [e])

theorem VB.step2 {W5 wr : World} {L P n k m : Nat} {V nm kd tg N : Nat → Nat} (h : VB W5 wr L P n k V nm kd tg N) {fd : Obj} {c1 c2 c3 c4 c6 c7 : Value} {e : Bool}
    (hm : nm k = m) (he : e = decide (kd k ≠ 0)) (h1 : kd k = 1 → c1 = .iface 30 (.pointer (some ⟨N (tg k), 0, none⟩))) (h2 : kd k ≠ 2) :
    VB W5 (((wr.setCell ⟨L, k, none⟩ (.pointer (some ⟨wr.heap.size + 1, 0, none⟩))).alloc fd).alloc (.cells #[.string (nmB m), c1, c2, c3, c4, .pointer (some ⟨P, 0, none⟩), c6, c7, .bool e] 56)) L P n (k + 1) (fun j => if j = k then wr.heap.size + 1 else V j) nm kd tg N := by
  have lL := h.row.lt
  refine h.step ((((Fr.refl (· = L) wr).setCell (p := ⟨L, k, none⟩) (fun _ => rfl) _).alloc _).alloc _) rfl ?_ ?_
  · rw [heap_alloc_old _ _ (by simp; omega), heap_alloc_old _ _ (by simp; omega)]
  · refine ⟨by omega, ⟨?_, ?_⟩, ?_, fun hk => ?_, fun hk => absurd hk h2⟩
    · rw [World.cell?_alloc_at _ _ _ _ (by simp), hm]; rfl
    · rw [World.cell?_alloc_at _ _ _ _ (by simp)]; rfl
    · rw [World.cell?_alloc_at _ _ _ _ (by simp), he]; rfl
    · rw [World.cell?_alloc_at _ _ _ _ (by simp), h1 hk]; rfl

theorem VB.step3 {W5 wr : World} {L P n k m t : Nat} {V nm kd tg N : Nat → Nat} (h : VB W5 wr L P n k V nm kd tg N) {fd : Obj} {c2 c3 c4 c6 c7 : Value}
    (hm : nm k = m) (ht : tg k = t) (h2 : kd k = 2) :
    VB W5 ((((wr.alloc fd).alloc (.cells #[.string (nmB m), .iface 57 (.pointer (some ⟨wr.heap.size + 1 + 1, 0, none⟩)), c2, c3, c4, .pointer (some ⟨P, 0, none⟩), c6, c7, .bool true] 56)).alloc
      (.cells #[.iface 30 (.pointer (some ⟨N t, 0, none⟩))] 59)).setCell ⟨L, k, none⟩ (.pointer (some ⟨wr.heap.size + 1, 0, none⟩))) L P n (k + 1) (fun j => if j = k then wr.heap.size + 1 else V j) nm kd tg N := by
  have lL := h.row.lt
  obtain ⟨c, hc, _⟩ := h.row
  have hc3 : (((wr.alloc fd).alloc (.cells #[.string (nmB m), .iface 57 (.pointer (some ⟨wr.heap.size + 1 + 1, 0, none⟩)), c2, c3, c4, .pointer (some ⟨P, 0, none⟩), c6, c7, .bool true] 56)).alloc (.cells #[.iface 30 (.pointer (some ⟨N t, 0, none⟩))] 59)).heap[L]? = some (.cells c 54 (0, 0)) := by
    rw [heap_alloc_old _ _ (by simp; omega), heap_alloc_old _ _ (by simp; omega), heap_alloc_old _ _ lL]; exact hc
  refine h.step (((((Fr.refl (· = L) wr).alloc _).alloc _).alloc _).setCell (p := ⟨L, k, none⟩) (fun _ => rfl) _) rfl ?_ ?_
  · rw [heap_setCell_same _ L k _ _ _ hc3, heap_setCell_same _ L k _ _ _ hc]
  · refine ⟨by omega, ⟨?_, ?_⟩, ?_, fun hk => by omega, fun _ => ⟨wr.heap.size + 1 + 1, by omega, ?_, ?_⟩⟩
    · rw [World.cell?_setCell_far _ _ _ _ (by simp; omega), World.cell?_alloc_past _ _ _ (by simp), World.cell?_alloc_at _ _ _ _ (by simp), hm]; rfl
    · rw [World.cell?_setCell_far _ _ _ _ (by simp; omega), World.cell?_alloc_past _ _ _ (by simp), World.cell?_alloc_at _ _ _ _ (by simp)]; rfl
    · rw [World.cell?_setCell_far _ _ _ _ (by simp; omega), World.cell?_alloc_past _ _ _ (by simp), World.cell?_alloc_at _ _ _ _ (by simp), h2]; rfl
    · rw [World.cell?_setCell_far _ _ _ _ (by simp; omega), World.cell?_alloc_past _ _ _ (by simp), World.cell?_alloc_at _ _ _ _ (by simp)]; rfl
    · rw [World.cell?_setCell_far _ _ _ _ (by simp; omega), World.cell?_alloc_at _ _ _ _ (by simp), ht]; rfl

theorem VB.fields {W5 wr : World} {L P n : Nat} {V nm kd tg N : Nat → Nat} (h : VB W5 wr L P n n V nm kd tg N) (h4 : ∀ i, nm i < 4) (h3 : ∀ i, kd i ≤ 2) : ∀ i, i < n → FieldAt wr L P i V nm kd tg N := fun i hi => by
  have hf := h.fa i hi
  have hc := h.row.cell hi
  simp [hi] at hc
  exact ⟨hc, hf.o, h4 i, h3 i, hf.e, hf.t1, fun hk => by
    obtain ⟨Q, _, h1, h2⟩ := hf.t2 hk
    exact ⟨Q, h1, h2⟩⟩
end Go.Proofs.Ybulkhuy
