/-
  The plain side of lookupEmbedded's second round: merging by target, counting hits.
-/
import Derived.Test.YbulkhuyRel
namespace Go.Proofs.Ybulkhuy
open Go.RowKit

def addM (tg : Nat → Nat) (ms : List (Nat × Bool)) (i : Nat) : List (Nat × Bool) :=
  match ms.findIdx? (fun x => tg x.1 == tg i) with
  | some p => ms.modify p (fun x => (x.1, true))
  | none => ms ++ [(i, false)]
def mergeM (tg : Nat → Nat) (l : List Nat) : List (Nat × Bool) := l.foldl (addM tg) []
def toE (N tg kd G : Nat → Nat) (ind : Bool) (x : Nat × Bool) : Emb := ⟨N (tg x.1), G x.1, ind || decide (kd x.1 = 2), x.2⟩
def stepM (mi : Nat → Option Nat) (tg : Nat → Nat) (st : Nat × Nat) (x : Nat × Bool) : Nat × Nat :=
  if (mi (tg x.1)).isSome then (st.1 + (if x.2 then 2 else 1), x.1) else st
def foldM (mi : Nat → Option Nat) (tg : Nat → Nat) (ms : List (Nat × Bool)) : Nat × Nat := ms.foldl (stepM mi tg) (0, 0)

theorem foldM_snoc (mi : Nat → Option Nat) (tg : Nat → Nat) (ms : List (Nat × Bool)) (x : Nat × Bool) : foldM mi tg (ms ++ [x]) = stepM mi tg (foldM mi tg ms) x := by simp [foldM]

theorem stepM_le (mi : Nat → Option Nat) (tg : Nat → Nat) (st : Nat × Nat) (x : Nat × Bool) : (stepM mi tg st x).1 ≤ st.1 + 2 := by
  unfold stepM
  split
  · simp only; split <;> omega
  · omega
theorem foldM_le (mi : Nat → Option Nat) (tg : Nat → Nat) (ms : List (Nat × Bool)) : ∀ st : Nat × Nat, (ms.foldl (stepM mi tg) st).1 ≤ st.1 + ms.length * 2 := by
  induction ms with
  | nil => simp
  | cons x ms ih =>
    intro st
    have h1 := ih (stepM mi tg st x)
    have h2 := stepM_le mi tg st x
    simp only [List.foldl_cons, List.length_cons]
    omega

theorem addE_toE (N tg kd G : Nat → Nat) (ind : Bool) (hinj : ∀ i j, N (tg i) = N (tg j) → tg i = tg j) (ms : List (Nat × Bool)) (i : Nat) :
    addE (ms.map (toE N tg kd G ind)) ⟨N (tg i), G i, ind || decide (kd i = 2), false⟩ = (addM tg ms i).map (toE N tg kd G ind) := by
  have e : (ms.map (toE N tg kd G ind)).findIdx? (fun x => x.nb == N (tg i)) = ms.findIdx? (fun x => tg x.1 == tg i) := by
    rw [List.findIdx?_map]
    congr 1
    funext x
    show (N (tg x.1) == N (tg i)) = (tg x.1 == tg i)
    by_cases h : tg x.1 = tg i
    · simp [h]
    · have : N (tg x.1) ≠ N (tg i) := fun e => h (hinj _ _ e)
      rw [beq_false_of_ne this, beq_false_of_ne h]
  unfold addE addM
  simp only [e]
  cases hf : ms.findIdx? (fun x => tg x.1 == tg i) with
  | none => simp [toE]
  | some p =>
    simp only [markE]
    apply List.ext_getElem?
    intro q
    simp only [List.getElem?_modify, List.getElem?_map]
    by_cases hq : p = q
    · subst hq; cases ms[p]? <;> simp [toE]
    · cases ms[q]? <;> simp [hq]

theorem mergeE_map (N tg kd G : Nat → Nat) (ind : Bool) (hinj : ∀ i j, N (tg i) = N (tg j) → tg i = tg j) (l : List Nat) : mergeE (embL N tg kd G ind l) = (mergeM tg l).map (toE N tg kd G ind) := by
  have key : ∀ (l : List Nat) (ms : List (Nat × Bool)), (embL N tg kd G ind l).foldl addE (ms.map (toE N tg kd G ind)) = (l.foldl (addM tg) ms).map (toE N tg kd G ind) := by
    intro l
    induction l with
    | nil => intro ms; rfl
    | cons i l ih =>
      intro ms
      simp only [embL, List.map_cons, List.foldl_cons]
      rw [addE_toE N tg kd G ind hinj ms i]
      exact ih _
  exact key l []

theorem addM_mem (tg : Nat → Nat) (ms : List (Nat × Bool)) (i : Nat) : ∀ x ∈ addM tg ms i, (∃ y ∈ ms, y.1 = x.1) ∨ x.1 = i := by
  intro x hx
  unfold addM at hx
  split at hx
  · rename_i p _
    obtain ⟨q, hq⟩ := List.mem_iff_getElem?.1 hx
    rw [List.getElem?_modify] at hq
    cases hm : ms[q]? with
    | none => simp [hm] at hq
    | some y =>
      simp only [hm] at hq
      refine .inl ⟨y, List.mem_of_getElem? hm, ?_⟩
      by_cases h : p = q
      · simp [h] at hq; rw [← hq]
      · simp [h] at hq; rw [← hq]
  · rcases List.mem_append.1 hx with h | h
    · exact .inl ⟨x, h, rfl⟩
    · simp at h; exact .inr (by rw [h])

theorem mergeM_mem (tg : Nat → Nat) (l : List Nat) : ∀ x ∈ mergeM tg l, x.1 ∈ l := by
  have key : ∀ (l : List Nat) (ms : List (Nat × Bool)), ∀ x ∈ l.foldl (addM tg) ms, (∃ y ∈ ms, y.1 = x.1) ∨ x.1 ∈ l := by
    intro l
    induction l with
    | nil => intro ms x hx; exact .inl ⟨x, hx, rfl⟩
    | cons i l ih =>
      intro ms x hx
      rcases ih (addM tg ms i) x hx with ⟨y, hy, e⟩ | h
      · rcases addM_mem tg ms i y hy with ⟨z, hz, e2⟩ | e2
        · exact .inl ⟨z, hz, e2.trans e⟩
        · exact .inr (by rw [← e, e2]; simp)
      · exact .inr (by simp [h])
  intro x hx
  rcases key l [] x hx with ⟨y, hy, _⟩ | h
  · cases hy
  · exact h

theorem addM_tgs (tg : Nat → Nat) (ms : List (Nat × Bool)) (i : Nat) (h : (ms.map (fun x => tg x.1)).Nodup) : ((addM tg ms i).map (fun x => tg x.1)).Nodup := by
  unfold addM
  split
  · rename_i p _
    have : (ms.modify p (fun x => (x.1, true))).map (fun x => tg x.1) = ms.map (fun x => tg x.1) := by
      apply List.ext_getElem?
      intro q
      simp only [List.getElem?_map, List.getElem?_modify]
      by_cases hq : p = q
      · subst hq; cases ms[p]? <;> simp
      · cases ms[q]? <;> simp [hq]
    rw [this]; exact h
  · rename_i hf
    have hn := List.findIdx?_eq_none_iff.1 hf
    rw [List.map_append, List.nodup_append]
    refine ⟨h, by simp, ?_⟩
    intro a ha b hb e
    simp at hb
    obtain ⟨x, hx, e2⟩ := List.mem_map.1 ha
    have := hn x hx
    simp at this
    exact this (by rw [e2, e, hb])

theorem mergeM_nodup (tg : Nat → Nat) (l : List Nat) : ((mergeM tg l).map (fun x => tg x.1)).Nodup := by
  have key : ∀ (l : List Nat) (ms : List (Nat × Bool)), (ms.map (fun x => tg x.1)).Nodup → ((l.foldl (addM tg) ms).map (fun x => tg x.1)).Nodup := by
    intro l
    induction l with
    | nil => intro ms h; exact h
    | cons i l ih => intro ms h; exact ih _ (addM_tgs tg ms i h)
  exact key l [] (by simp)

theorem mergeM_length (tg : Nat → Nat) (l : List Nat) : (mergeM tg l).length ≤ l.length := by
  have key : ∀ (l : List Nat) (ms : List (Nat × Bool)), (l.foldl (addM tg) ms).length ≤ ms.length + l.length := by
    intro l
    induction l with
    | nil => simp
    | cons i l ih =>
      intro ms
      have h1 := ih (addM tg ms i)
      have h2 : (addM tg ms i).length ≤ ms.length + 1 := by
        unfold addM
        split <;> simp
      simp only [List.foldl_cons, List.length_cons]
      omega
  have := key l []
  simpa [mergeM] using this

theorem mergeM_pos (tg : Nat → Nat) (l : List Nat) (h : l ≠ []) : 0 < (mergeM tg l).length := by
  have key : ∀ (l : List Nat) (ms : List (Nat × Bool)), ms.length ≤ (l.foldl (addM tg) ms).length := by
    intro l
    induction l with
    | nil => intro ms; exact Nat.le_refl _
    | cons i l ih =>
      intro ms
      have h2 : ms.length ≤ (addM tg ms i).length := by
        unfold addM
        split <;> simp
      exact Nat.le_trans h2 (ih _)
  cases l with
  | nil => exact absurd rfl h
  | cons i l =>
    have := key l (addM tg [] i)
    have e : (addM tg [] i).length = 1 := by simp [addM]
    rw [e] at this
    exact this

theorem Hit.unique {I : Nat → Nat} {s : Nat} {use : Bool} {n : Nat} {r r' : Int} (h : Hit I s use n r) (h' : Hit I s use n r') : r = r' := by
  rcases h with ⟨k, hk, rfl, h1, h2⟩ | ⟨rfl, h1⟩ <;> rcases h' with ⟨k', hk', rfl, h1', h2'⟩ | ⟨rfl, h1'⟩
  · rcases Nat.lt_trichotomy k k' with h | h | h
    · rw [h2' k h] at h1; cases h1
    · rw [h]
    · rw [h2 k' h] at h1'; cases h1'
  · rw [h1' k hk] at h1; cases h1
  · rw [h1 k' hk'] at h1'; cases h1'
  · rfl

theorem nodup_take {α : Type} {l : List α} (h : l.Nodup) (p : Nat) (a : α) (ha : l[p]? = some a) : a ∉ l.take p := by
  intro hm
  obtain ⟨q, hq⟩ := List.mem_iff_getElem?.1 hm
  rw [List.getElem?_take] at hq
  split at hq
  · rename_i hlt
    have hp : p < l.length := (List.getElem?_eq_some_iff.1 ha).1
    have hql : q < l.length := by omega
    have e1 : l[q] = a := by simpa [List.getElem?_eq_getElem hql] using hq
    have e2 : l[p] = a := by simpa [List.getElem?_eq_getElem hp] using ha
    have := (List.getElem_inj h).1 (e1.trans e2.symm)
    omega
  · cases hq
end Go.Proofs.Ybulkhuy
