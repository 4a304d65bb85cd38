/-
  The law's own arrays: first places, doubles, first indirections (A5).
-/
import Derived.Test.YbulkhuyVb
namespace Go.Proofs.Ybulkhuy
open Go.RowKit

def fiI (kd tg : Nat → Nat) (t p : Nat) : Int := match fi kd tg t p with | some x => (x : Int) | none => -1
def fin (kd tg : Nat → Nat) (ind : Bool) (t p : Nat) : Bool := match fi kd tg t p with | some x => ind || decide (kd x = 2) | none => false

/-- The three arrays behind p fields. -/
structure A5 (wr : World) (X p : Nat) (kd tg : Nat → Nat) (ind : Bool) : Prop where
  f : wr.rowIs X 66 3 (fun t => .int .i64 (fiI kd tg t p))
  d : wr.rowIs (X + 1) 67 3 (fun t => .bool (du kd tg t p))
  i : wr.rowIs (X + 1 + 1) 67 3 (fun t => .bool (fin kd tg ind t p))

theorem A5.start (w : World) (kd tg : Nat → Nat) (ind : Bool) :
    A5 (((w.alloc (.cells #[.int .i64 (-1), .int .i64 (-1), .int .i64 (-1)] 66)).alloc (.cells #[.bool false, .bool false, .bool false] 67)).alloc (.cells #[.bool false, .bool false, .bool false] 67)) w.heap.size 0 kd tg ind := by
  have h1 := World.rowIs_alloc w #[.int .i64 (-1), .int .i64 (-1), .int .i64 (-1)] 66 (fun _ => .int .i64 (-1)) (fun i hi => by
    match i, hi with
    | 0, _ | 1, _ | 2, _ => rfl)
  have h2 := World.rowIs_alloc (w.alloc (.cells #[.int .i64 (-1), .int .i64 (-1), .int .i64 (-1)] 66)) #[.bool false, .bool false, .bool false] 67 (fun _ => .bool false) (fun i hi => by
    match i, hi with
    | 0, _ | 1, _ | 2, _ => rfl)
  have h3 := World.rowIs_alloc ((w.alloc (.cells #[.int .i64 (-1), .int .i64 (-1), .int .i64 (-1)] 66)).alloc (.cells #[.bool false, .bool false, .bool false] 67)) #[.bool false, .bool false, .bool false] 67 (fun _ => .bool false) (fun i hi => by
    match i, hi with
    | 0, _ | 1, _ | 2, _ => rfl)
  have e2 : (w.alloc (.cells #[.int .i64 (-1), .int .i64 (-1), .int .i64 (-1)] 66)).heap.size = w.heap.size + 1 := by simp
  have e3 : ((w.alloc (.cells #[.int .i64 (-1), .int .i64 (-1), .int .i64 (-1)] 66)).alloc (.cells #[.bool false, .bool false, .bool false] 67)).heap.size = w.heap.size + 1 + 1 := by simp
  rw [e2] at h2
  rw [e3] at h3
  exact ⟨(h1.alloc _).alloc _, h2.alloc _, h3⟩

theorem A5.skip {wr : World} {X p : Nat} {kd tg : Nat → Nat} {ind : Bool} (h : A5 wr X p kd tg ind) (hk : kd p = 0) (o : Obj) : A5 (wr.alloc o) X (p + 1) kd tg ind := by
  have e1 : ∀ t, fi kd tg t (p + 1) = fi kd tg t p := fun t => by simp [fi, hk]
  have e2 : ∀ t, du kd tg t (p + 1) = du kd tg t p := fun t => by simp [du, hk]
  exact ⟨(h.f.alloc o).congr (fun t _ => by simp [fiI, e1]), (h.d.alloc o).congr (fun t _ => by simp [e2]), (h.i.alloc o).congr (fun t _ => by simp [fin, e1])⟩

theorem A5.first {wr wx : World} {X p t : Nat} {kd tg : Nat → Nat} {ind b : Bool} (h : A5 wr X p kd tg ind) (hk : kd p ≠ 0) (ht : tg p = t) (hf : fi kd tg t p = none) (hb : b = (ind || decide (kd p = 2)))
    (h1 : wx.heap[X]? = (wr.setCell ⟨X, t, none⟩ (.int .i64 p)).heap[X]?) (h2 : wx.heap[X + 1]? = wr.heap[X + 1]?) (h3 : wx.heap[X + 1 + 1]? = (wr.setCell ⟨X + 1 + 1, t, none⟩ (.bool b)).heap[X + 1 + 1]?) : A5 wx X (p + 1) kd tg ind := by
  have e1 : ∀ t', fi kd tg t' (p + 1) = if t' = t then some p else fi kd tg t' p := fun t' => by
    by_cases e : t' = t
    · subst e; simp [fi, hk, ht, hf]
    · have : ¬ tg p = t' := fun e' => e (e'.symm.trans ht)
      simp [fi, this, e]
  have e2 : ∀ t', du kd tg t' (p + 1) = du kd tg t' p := fun t' => by
    by_cases e : t' = t
    · subst e; simp [du, hf]
    · have : ¬ tg p = t' := fun e' => e (e'.symm.trans ht)
      simp [du, this]
  refine ⟨((h.f.set t _).of_block h1).congr (fun t' _ => ?_), (h.d.of_block h2).congr (fun t' _ => by simp [e2]), ((h.i.set t _).of_block h3).congr (fun t' _ => ?_)⟩
  · by_cases e : t' = t
    · simp [fiI, e1, e]
    · simp [fiI, e1, e]
  · by_cases e : t' = t
    · simp [fin, e1, e, hb]
    · simp [fin, e1, e]

theorem A5.again {wr wx : World} {X p t x : Nat} {kd tg : Nat → Nat} {ind : Bool} (h : A5 wr X p kd tg ind) (hk : kd p ≠ 0) (ht : tg p = t) (hf : fi kd tg t p = some x)
    (h1 : wx.heap[X]? = wr.heap[X]?) (h2 : wx.heap[X + 1]? = (wr.setCell ⟨X + 1, t, none⟩ (.bool true)).heap[X + 1]?) (h3 : wx.heap[X + 1 + 1]? = wr.heap[X + 1 + 1]?) : A5 wx X (p + 1) kd tg ind := by
  have e1 : ∀ t', fi kd tg t' (p + 1) = fi kd tg t' p := fun t' => by
    by_cases e : t' = t
    · subst e; rw [fi_keep kd tg _ p x hf, hf]
    · have : ¬ tg p = t' := fun e' => e (e'.symm.trans ht)
      simp [fi, this]
  have e2 : ∀ t', du kd tg t' (p + 1) = if t' = t then true else du kd tg t' p := fun t' => by
    by_cases e : t' = t
    · subst e; simp [du, hk, ht, hf]
    · have : ¬ tg p = t' := fun e' => e (e'.symm.trans ht)
      simp [du, this, e]
  refine ⟨(h.f.of_block h1).congr (fun t' _ => by simp [fiI, e1]), ((h.d.set t _).of_block h2).congr (fun t' _ => ?_), (h.i.of_block h3).congr (fun t' _ => by simp [fin, e1])⟩
  by_cases e : t' = t
  · simp [e2, e]
  · simp [e2, e]

theorem A5.first2 {wr : World} {X p t : Nat} {kd tg : Nat → Nat} {ind b : Bool} (h : A5 wr X p kd tg ind) (hk : kd p ≠ 0) (ht : tg p = t) (hf : fi kd tg t p = none) (hb : b = (ind || decide (kd p = 2))) (o : Obj) :
    A5 (((wr.setCell ⟨X, t, none⟩ (.int .i64 p)).setCell ⟨X + 1 + 1, t, none⟩ (.bool b)).alloc o) X (p + 1) kd tg ind := by
  have l1 := h.f.lt
  have l2 := h.d.lt
  have l3 := h.i.lt
  obtain ⟨c, hc, _⟩ := h.i
  refine h.first hk ht hf hb ?_ ?_ ?_
  · rw [heap_alloc_old _ _ (by simpa using l1), heap_setCell_other _ _ _ _ (by show X ≠ X + 1 + 1; omega)]
  · rw [heap_alloc_old _ _ (by simpa using l2), heap_setCell_other _ _ _ _ (by show X + 1 ≠ X + 1 + 1; omega), heap_setCell_other _ _ _ _ (by show X + 1 ≠ X; omega)]
  · rw [heap_alloc_old _ _ (by simpa using l3), heap_setCell_same _ (X + 1 + 1) t _ _ _ ((heap_setCell_other _ _ _ _ (by show X + 1 + 1 ≠ X; omega)).trans hc), heap_setCell_same _ (X + 1 + 1) t _ _ _ hc]

theorem A5.again2 {wr : World} {X p t x : Nat} {kd tg : Nat → Nat} {ind : Bool} (h : A5 wr X p kd tg ind) (hk : kd p ≠ 0) (ht : tg p = t) (hf : fi kd tg t p = some x) (o : Obj) :
    A5 ((wr.setCell ⟨X + 1, t, none⟩ (.bool true)).alloc o) X (p + 1) kd tg ind := by
  have l1 := h.f.lt
  have l2 := h.d.lt
  have l3 := h.i.lt
  refine h.again hk ht hf ?_ ?_ ?_
  · rw [heap_alloc_old _ _ (by simpa using l1), heap_setCell_other _ _ _ _ (by show X ≠ X + 1; omega)]
  · rw [heap_alloc_old _ _ (by simpa using l2)]
  · rw [heap_alloc_old _ _ (by simpa using l3), heap_setCell_other _ _ _ _ (by show X + 1 + 1 ≠ X + 1; omega)]
end Go.Proofs.Ybulkhuy
