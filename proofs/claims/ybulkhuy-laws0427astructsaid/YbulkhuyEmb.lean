/-
  The entries of lookupEmbedded's lists, and what mergeEmbedded makes of them.
-/
import Derived.Test.YbulkhuyMaps
import Derived.Deep.AppendLies
namespace Go.Proofs.Ybulkhuy
open Go.RowKit

/-- An entry: the Named's block, the block of its path (one number), indirect, multiple. -/
structure Emb where
  nb : Nat
  g : Nat
  ind : Bool
  mult : Bool

def Emb.cells (e : Emb) : List Value := [.iface 30 (ptr e.nb), .slice (some ⟨e.g, 0, none⟩) 1 1, .bool e.ind, .bool e.mult]

def embCells (es : List Emb) : List Value := es.flatMap Emb.cells

theorem embCells_append (a b : List Emb) : embCells (a ++ b) = embCells a ++ embCells b := by simp [embCells]

theorem embCells_length (es : List Emb) : (embCells es).length = es.length * 4 := by
  induction es with
  | nil => rfl
  | cons e es ih => simp only [embCells, List.flatMap_cons, List.length_append, List.length_cons] at ih ⊢; simp only [Emb.cells, List.length_cons, List.length_nil]; omega

theorem embCells_get (es : List Emb) (j : Nat) (e : Emb) (h : es[j]? = some e) :
    (embCells es)[j * 4]? = some (.iface 30 (ptr e.nb)) ∧ (embCells es)[j * 4 + 1]? = some (.slice (some ⟨e.g, 0, none⟩) 1 1) ∧ (embCells es)[j * 4 + 2]? = some (.bool e.ind) ∧ (embCells es)[j * 4 + 3]? = some (.bool e.mult) := by
  induction es generalizing j with
  | nil => simp at h
  | cons x es ih =>
    have hx : x.cells.length = 4 := rfl
    match j, h with
    | 0, h =>
      simp at h
      subst h
      simp [embCells, Emb.cells]
    | j + 1, h =>
      obtain ⟨h1, h2, h3, h4⟩ := ih j (by simpa using h)
      have e1 : embCells (x :: es) = x.cells ++ embCells es := by simp [embCells]
      rw [e1]
      refine ⟨?_, ?_, ?_, ?_⟩
      · rw [List.getElem?_append_right (by omega), hx, show (j + 1) * 4 - 4 = j * 4 by omega]; exact h1
      · rw [List.getElem?_append_right (by omega), hx, show (j + 1) * 4 + 1 - 4 = j * 4 + 1 by omega]; exact h2
      · rw [List.getElem?_append_right (by omega), hx, show (j + 1) * 4 + 2 - 4 = j * 4 + 2 by omega]; exact h3
      · rw [List.getElem?_append_right (by omega), hx, show (j + 1) * 4 + 3 - 4 = j * 4 + 3 by omega]; exact h4

/-- The p-th entry marked as multiple. -/
def markE (ms : List Emb) (p : Nat) : List Emb := ms.modify p (fun e => { e with mult := true })

theorem embCells_mark (ms : List Emb) (p : Nat) (hp : p < ms.length) : (embCells ms).set (p * 4 + 3) (.bool true) = embCells (markE ms p) := by
  induction ms generalizing p with
  | nil => simp at hp
  | cons x ms ih =>
    have e1 : ∀ y l, embCells (y :: l) = y.cells ++ embCells l := fun y l => by simp [embCells]
    match p, hp with
    | 0, _ =>
      simp [embCells, markE, Emb.cells]
    | p + 1, hp =>
      have := ih p (by simpa using hp)
      have e2 : markE (x :: ms) (p + 1) = x :: markE ms p := by simp [markE]
      rw [e2, e1, e1, ← this, List.set_append_right _ _ (by show x.cells.length ≤ _; simp [Emb.cells]; omega)]
      congr 2
      simp [Emb.cells]
      omega

def addE (ms : List Emb) (e : Emb) : List Emb :=
  match ms.findIdx? (fun x => x.nb == e.nb) with
  | some p => markE ms p
  | none => ms ++ [e]

def mergeE (es : List Emb) : List Emb := es.foldl addE []

theorem mergeE_snoc (es : List Emb) (e : Emb) : mergeE (es ++ [e]) = addE (mergeE es) e := by simp [mergeE]

theorem addE_length (ms : List Emb) (e : Emb) : (addE ms e).length ≤ ms.length + 1 := by
  unfold addE
  split
  · simp [markE]
  · simp

theorem foldE_length (es : List Emb) : ∀ ms : List Emb, (es.foldl addE ms).length ≤ ms.length + es.length := by
  induction es with
  | nil => simp
  | cons e es ih =>
    intro ms
    have h1 := ih (addE ms e)
    have h2 := addE_length ms e
    simp only [List.foldl_cons, List.length_cons]
    omega

theorem mergeE_length (es : List Emb) : (mergeE es).length ≤ es.length := by
  have := foldE_length es []
  simpa [mergeE] using this

theorem markE_nb (ms : List Emb) (p : Nat) : (markE ms p).map (·.nb) = ms.map (·.nb) := by
  apply List.ext_getElem?
  intro i
  simp only [markE, List.getElem?_map, List.getElem?_modify]
  by_cases h : p = i
  · subst h; cases ms[p]? <;> simp
  · cases hm : ms[i]? <;> simp [h]

end Go.Proofs.Ybulkhuy
