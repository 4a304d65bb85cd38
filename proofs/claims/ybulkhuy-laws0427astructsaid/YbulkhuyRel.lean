/-
  What lookupEmbedded meets at a struct: the fields, the Named types; what its first round keeps.
-/
import Derived.Test.YbulkhuyMerge
import Derived.Test.YbulkhuyNote
import Derived.Test.YbulkhuyMeth
import Derived.Test.YbulkhuyLookI
namespace Go.Proofs.Ybulkhuy
open Go.RowKit

/-- One field in memory. -/
structure FieldAt (W : World) (L P i : Nat) (V nm kd tg N : Nat → Nat) : Prop where
  c : W.cell? ⟨L, i, none⟩ = some (.pointer (some ⟨V i, 0, none⟩))
  o : ObjAt W (V i) P (nm i)
  n4 : nm i < 4
  k3 : kd i ≤ 2
  e : W.cell? ⟨V i, 8, none⟩ = some (.bool (decide (kd i ≠ 0)))
  t1 : kd i = 1 → W.cell? ⟨V i, 1, none⟩ = some (.iface 30 (.pointer (some ⟨N (tg i), 0, none⟩)))
  t2 : kd i = 2 → ∃ Q, W.cell? ⟨V i, 1, none⟩ = some (.iface 57 (.pointer (some ⟨Q, 0, none⟩))) ∧ W.cell? ⟨Q, 0, none⟩ = some (.iface 30 (.pointer (some ⟨N (tg i), 0, none⟩)))

theorem FieldAt.below {W W' : World} {L P i : Nat} {V nm kd tg N : Nat → Nat} {B : Nat} (h : FieldAt W L P i V nm kd tg N) (hb : Below B W W') (hB : W.heap.size ≤ B) : FieldAt W' L P i V nm kd tg N := by
  have key : ∀ (p : Addr) (v : Value), W.cell? p = some v → W'.cell? p = some v := fun p v hp => (hb.cell (p := p) (Nat.lt_of_lt_of_le (World.block_lt_of_cell? W _ hp) hB)).trans hp
  exact ⟨key _ _ h.c, ⟨key _ _ h.o.1, key _ _ h.o.2⟩, h.n4, h.k3, key _ _ h.e, fun hk => key _ _ (h.t1 hk), fun hk => by
    obtain ⟨Q, h1, h2⟩ := h.t2 hk
    exact ⟨Q, key _ _ h1, key _ _ h2⟩⟩

def cntF (sm : Nat → Bool) : Nat → Nat
  | 0 => 0
  | i + 1 => cntF sm i + (if sm i then 1 else 0)
def lastF (sm : Nat → Bool) : Nat → Nat
  | 0 => 0
  | i + 1 => if sm i then i else lastF sm i
def embI (sm : Nat → Bool) (kd : Nat → Nat) : Nat → List Nat
  | 0 => []
  | i + 1 => embI sm kd i ++ (if sm i = false ∧ kd i ≠ 0 then [i] else [])

theorem cntF_le (sm : Nat → Bool) (i : Nat) : cntF sm i ≤ i := by
  induction i with
  | zero => simp [cntF]
  | succ i ih => simp only [cntF]; split <;> omega
theorem embI_lt (sm : Nat → Bool) (kd : Nat → Nat) (i j : Nat) (h : j ∈ embI sm kd i) : j < i := by
  induction i with
  | zero => simp [embI] at h
  | succ i ih =>
    simp only [embI, List.mem_append] at h
    rcases h with h | h
    · have := ih h; omega
    · split at h
      · simp at h; omega
      · cases h
theorem embI_length (sm : Nat → Bool) (kd : Nat → Nat) (i : Nat) : (embI sm kd i).length ≤ i := by
  induction i with
  | zero => simp [embI]
  | succ i ih => simp only [embI, List.length_append]; split <;> simp <;> omega

/-- The entries of 'next'. -/
def embL (N tg kd G : Nat → Nat) (ind : Bool) (l : List Nat) : List Emb := l.map fun j => ⟨N (tg j), G j, ind || decide (kd j = 2), false⟩

/-- What the first round's loop over the fields keeps, behind i fields. W2: the world in which it begins. -/
structure R1 (W2 wr : World) (C i : Nat) (ind : Bool) (sm : Nat → Bool) (V kd tg N : Nat → Nat) (v : Value) : Prop where
  fr : Fr (fun k => C ≤ k ∧ k ≤ C + 3) W2 wr
  acc : ∃ obj ix ind', Acc wr (C + 1 + 1 + 1) C (C + 1) (C + 1 + 1) (cntF sm i) obj ix ind' ∧
    (0 < cntF sm i → obj = .iface 54 (.pointer (some ⟨V (lastF sm i), 0, none⟩)) ∧ ind' = ind ∧ ∃ g, ix = .slice (some ⟨g, 0, none⟩) 1 1 ∧ wr.heap[g]? = some (.cells #[.int .i64 (lastF sm i)] 3 (0, 0)))
  nxt : ∃ G : Nat → Nat, wr.ownsRow (C + 5) 78 4 v (embI sm kd i).length (embCells (embL N tg kd G ind (embI sm kd i))) ∧ (embI sm kd i = [] → v = .slice none 0 0) ∧
    ∀ j ∈ embI sm kd i, wr.heap[G j]? = some (.cells #[.int .i64 j] 3 (0, 0)) ∧ C + 3 < G j

theorem own_fr {S : Nat → Prop} {w w' : World} {base : Nat} {e : TypeId} {size : Nat} {v : Value} {n : Nat} {xs : List Value} (h : w.ownsRow base e size v n xs) (hf : Fr S w w') (hs : ∀ k, base ≤ k → ¬ S k) : w'.ownsRow base e size v n xs := by
  refine ⟨h.1, ?_⟩
  rcases h.2 with hn | ⟨g, cap, cur, rfl, hb, hgg, rest⟩
  · exact .inl hn
  · exact .inr ⟨g, cap, cur, rfl, hb, (hf.block g (Array.getElem?_eq_some_iff.1 hgg).1 (hs g hb)).trans hgg, rest⟩

/-- A field of the asked name. -/
theorem R1.hit {W2 wr wr' : World} {C i : Nat} {ind : Bool} {sm : Nat → Bool} {V kd tg N : Nat → Nat} {v : Value} {g : Nat} (h : R1 W2 wr C i ind sm V kd tg N v) (hs : sm i = true)
    (hA : Acc wr' (C + 1 + 1 + 1) C (C + 1) (C + 1 + 1) (cntF sm i + 1) (.iface 54 (.pointer (some ⟨V i, 0, none⟩))) (.slice (some ⟨g, 0, none⟩) 1 1) ind)
    (hg : wr'.heap[g]? = some (.cells #[.int .i64 i] 3 (0, 0))) (hf : Fr (fun k => k = C + 1 + 1 + 1 ∨ k = C ∨ k = C + 1 ∨ k = C + 1 + 1) wr wr') :
    R1 W2 wr' C (i + 1) ind sm V kd tg N v := by
  have hf' : Fr (fun k => C ≤ k ∧ k ≤ C + 3) wr wr' := hf.mono (fun k _ hk => by omega)
  have e1 : embI sm kd (i + 1) = embI sm kd i := by simp [embI, hs]
  have e3 : lastF sm (i + 1) = i := by simp [lastF, hs]
  refine ⟨h.fr.trans hf', ⟨.iface 54 (.pointer (some ⟨V i, 0, none⟩)), .slice (some ⟨g, 0, none⟩) 1 1, ind, by simpa [cntF, hs] using hA, fun _ => ?_⟩, ?_⟩
  · rw [e3]
    exact ⟨rfl, rfl, g, rfl, hg⟩
  · rw [e1]
    obtain ⟨G, h1, h2, h3⟩ := h.nxt
    refine ⟨G, own_fr h1 hf' (fun k hk => by omega), h2, fun j hj => ?_⟩
    obtain ⟨h4, h5⟩ := h3 j hj
    exact ⟨(hf'.block _ (lt_of_block h4) (by omega)).trans h4, h5⟩

/-- A field that is passed over. -/
theorem R1.skip {W2 wr : World} {C i : Nat} {ind : Bool} {sm : Nat → Bool} {V kd tg N : Nat → Nat} {v : Value} (h : R1 W2 wr C i ind sm V kd tg N v) (hs : sm i = false) (hk : kd i = 0) :
    R1 W2 wr C (i + 1) ind sm V kd tg N v := by
  have e1 : embI sm kd (i + 1) = embI sm kd i := by simp [embI, hk]
  have e2 : cntF sm (i + 1) = cntF sm i := by simp [cntF, hs]
  have e3 : lastF sm (i + 1) = lastF sm i := by simp [lastF, hs]
  refine ⟨h.fr, ?_, ?_⟩
  · rw [e2, e3]; exact h.acc
  · rw [e1]; exact h.nxt

/-- An embedded field. -/
theorem R1.emb {W2 wr wa wr' : World} {C i g' cap' gi : Nat} {ind : Bool} {sm : Nat → Bool} {V kd tg N : Nat → Nat} {v : Value} {o2 : Obj} {G : Nat → Nat} (h : R1 W2 wr C i ind sm V kd tg N v) (hs : sm i = false) (hk : kd i ≠ 0)
    (hgi : gi = wr.heap.size) (hW2 : W2.heap.size = C + 5)
    (hwa : wa = (wr.alloc (.cells #[.int .i64 i] 3)).alloc o2)
    (h1 : wr.ownsRow (C + 5) 78 4 v (embI sm kd i).length (embCells (embL N tg kd G ind (embI sm kd i)))) (h3 : ∀ j ∈ embI sm kd i, wr.heap[G j]? = some (.cells #[.int .i64 j] 3 (0, 0)) ∧ C + 3 < G j)
    (hown : wr'.ownsRow (C + 5) 78 4 (.slice (some ⟨g', 0, none⟩) ((embI sm kd i).length + 1) cap') ((embI sm kd i).length + 1) (embCells (embL N tg kd G ind (embI sm kd i)) ++ [.iface 30 (.pointer (some ⟨N (tg i), 0, none⟩)), .slice (some ⟨gi, 0, none⟩) 1 1, .bool (ind || decide (kd i = 2)), .bool false]))
    (hg : wa.drew.grownBy wr' v.ownBlock) :
    R1 W2 wr' C (i + 1) ind sm V kd tg N (.slice (some ⟨g', 0, none⟩) ((embI sm kd i).length + 1) cap') := by
  have e1 : embI sm kd (i + 1) = embI sm kd i ++ [i] := by simp [embI, hs, hk]
  have e2 : cntF sm (i + 1) = cntF sm i := by simp [cntF, hs]
  have e3 : lastF sm (i + 1) = lastF sm i := by simp [lastF, hs]
  have hrow : ∀ k, v.ownBlock = some k → C + 5 ≤ k ∧ k < wr.heap.size := fun k hk => h1.lt k hk
  have hblk : ∀ k o, wr.heap[k]? = some o → (v.ownBlock ≠ some k) → wr'.heap[k]? = some o := by
    intro k o ho hne
    have hlt := lt_of_block ho
    rw [hg.block k (by show k < wa.heap.size; rw [hwa]; simp; omega) (Ne.symm hne)]
    show wa.heap[k]? = _
    rw [hwa, heap_alloc_old _ _ (by simp; omega), heap_alloc_old _ _ hlt]
    exact ho
  have hty : ∀ k c t, wr.heap[k]? = some (.cells c t (0, 0)) → t ≠ 78 → v.ownBlock ≠ some k := by
    intro k c t hc ht e
    rcases h1.2 with ⟨rfl, _⟩ | ⟨g, cp, cur, rfl, _, hgg, _⟩
    · simp [Value.ownBlock] at e
    · simp [Value.ownBlock] at e
      subst e
      rw [hc] at hgg
      simp at hgg
      exact ht hgg.2
  have hfr : Fr (fun k => C ≤ k ∧ k ≤ C + 3) W2 wr' := by
    refine ⟨hg.os.trans ?_, hg.tape.trans ?_, hg.output.trans ?_, ?_, ?_⟩
    · rw [hwa]; exact h.fr.os
    · rw [hwa]; exact h.fr.tape
    · rw [hwa]; exact h.fr.output
    · have := hg.size
      have h4 := h.fr.size
      rw [hwa] at this
      simp at this
      omega
    · intro k hk' hns
      have hsz := h.fr.size
      rw [hg.block k (by show k < wa.heap.size; rw [hwa]; simp; omega) (fun e => by have := hrow _ e.symm; omega)]
      show wa.heap[k]? = _
      rw [hwa, heap_alloc_old _ _ (by simp; omega), heap_alloc_old _ _ (by omega)]
      exact h.fr.block k hk' hns
  have hCw : C + 4 < wr.heap.size := by have := h.fr.size; omega
  refine ⟨hfr, ?_, ?_⟩
  · rw [e2, e3]
    obtain ⟨obj, ix, ind', hA, hpos⟩ := h.acc
    refine ⟨obj, ix, ind', ⟨hblk _ _ hA.h0 (hty _ _ _ hA.h0 (by decide)), hblk _ _ hA.h1 (hty _ _ _ hA.h1 (by decide)), hblk _ _ hA.h2 (hty _ _ _ hA.h2 (by decide)), hblk _ _ hA.h3 (hty _ _ _ hA.h3 (by decide))⟩, fun h0 => ?_⟩
    obtain ⟨a1, a2, g, a3, a4⟩ := hpos h0
    exact ⟨a1, a2, g, a3, hblk _ _ a4 (hty _ _ _ a4 (by decide))⟩
  · rw [e1]
    refine ⟨fun j => if j = i then gi else G j, ?_, fun hh => by simp at hh, fun j hj => ?_⟩
    · have e4 : embL N tg kd (fun j => if j = i then gi else G j) ind (embI sm kd i ++ [i]) = embL N tg kd G ind (embI sm kd i) ++ [⟨N (tg i), gi, ind || decide (kd i = 2), false⟩] := by
        simp only [embL, List.map_append, List.map_cons, List.map_nil, if_true]
        congr 1
        refine List.map_congr_left fun j hj => ?_
        have := embI_lt sm kd i j hj
        simp [Nat.ne_of_lt this]
      rw [e4, embCells_append, List.length_append]
      exact hown
    · rcases List.mem_append.1 hj with hj | hj
      · have := embI_lt sm kd i j hj
        simp only [Nat.ne_of_lt this, if_false]
        obtain ⟨h4, h5⟩ := h3 j hj
        exact ⟨hblk _ _ h4 (hty _ _ _ h4 (by decide)), h5⟩
      · simp at hj
        subst hj
        simp only [if_true]
        refine ⟨?_, by omega⟩
        rw [hgi, hg.block wr.heap.size (by show wr.heap.size < wa.heap.size; rw [hwa]; simp; omega) (fun e => by have := hrow _ e.symm; omega)]
        show wa.heap[wr.heap.size]? = _
        rw [hwa, heap_alloc_old _ _ (by simp)]
        exact heap_alloc_new wr _
end Go.Proofs.Ybulkhuy
