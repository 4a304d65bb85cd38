/-
  A frame: what is left of the world where some blocks may be written; the four captured variables.
-/
import Derived.Test.YbulkhuyRows
import Derived.WalkKit
import Derived.WalkSpells
import Derived.WalkLawsBesides
namespace Go.Proofs.Ybulkhuy
open Go.RowKit

/-- w' is w with new blocks, and with writes to blocks of S alone. -/
structure Fr (S : Nat → Prop) (w w' : World) : Prop where
  os : w'.os = w.os
  tape : w'.tape = w.tape
  output : w'.output = w.output
  size : w.heap.size ≤ w'.heap.size
  block : ∀ k, k < w.heap.size → ¬ S k → w'.heap[k]? = w.heap[k]?

theorem Fr.refl (S : Nat → Prop) (w : World) : Fr S w w := ⟨rfl, rfl, rfl, Nat.le_refl _, fun _ _ _ => rfl⟩
theorem Fr.trans {S : Nat → Prop} {a b c : World} (h : Fr S a b) (k : Fr S b c) : Fr S a c :=
  ⟨k.os.trans h.os, k.tape.trans h.tape, k.output.trans h.output, Nat.le_trans h.size k.size, fun i hi hs => (k.block i (Nat.lt_of_lt_of_le hi h.size) hs).trans (h.block i hi hs)⟩
theorem Fr.mono {S T : Nat → Prop} {a b : World} (h : Fr S a b) (hs : ∀ k, k < a.heap.size → S k → T k) : Fr T a b :=
  ⟨h.os, h.tape, h.output, h.size, fun i hi ht => h.block i hi (fun hsi => ht (hs i hi hsi))⟩
theorem Fr.alloc {S : Nat → Prop} {a b : World} (h : Fr S a b) (o : Obj) : Fr S a (b.alloc o) :=
  ⟨h.os, h.tape, h.output, by simp; exact Nat.le_succ_of_le h.size, fun i hi hs => (heap_alloc_old b o (Nat.lt_of_lt_of_le hi h.size)).trans (h.block i hi hs)⟩
theorem Fr.setCell {S : Nat → Prop} {a b : World} (h : Fr S a b) {p : Addr} (hp : p.block < a.heap.size → S p.block) (v : Value) : Fr S a (b.setCell p v) :=
  ⟨h.os, h.tape, h.output, by simpa using h.size, fun i hi hs => (heap_setCell_other b p i v (fun e => hs (e ▸ hp (e ▸ hi)))).trans (h.block i hi hs)⟩
theorem Fr.drew {S : Nat → Prop} {a b : World} (h : Fr S a b) : Fr S a b.drew := ⟨h.os, h.tape, h.output, h.size, h.block⟩
theorem Fr.drewN {S : Nat → Prop} {a b : World} (h : Fr S a b) (n : Nat) : Fr S a (b.drewN n) := ⟨h.os, h.tape, h.output, h.size, h.block⟩
theorem Fr.below {S : Nat → Prop} {a b c : World} (h : Fr S a b) (k : Below b.heap.size b c) : Fr S a c :=
  ⟨k.os.trans h.os, k.tape.trans h.tape, k.output.trans h.output, Nat.le_trans h.size k.size, fun i hi hs => (k.block i (Nat.lt_of_lt_of_le hi h.size)).trans (h.block i hi hs)⟩
theorem Fr.to_below {S : Nat → Prop} {a b : World} {B : Nat} (h : Fr S a b) (hB : B ≤ a.heap.size) (hs : ∀ k, k < B → ¬ S k) : Below B a b :=
  ⟨h.os, h.tape, h.output, h.size, fun i hi => h.block i (Nat.lt_of_lt_of_le hi hB) (hs i hi)⟩
theorem Fr.grown {S : Nat → Prop} {a b c : World} {row : Option Nat} (h : Fr S a b) (k : b.grownBy c row) (hr : ∀ g, row = some g → g < a.heap.size → S g) : Fr S a c :=
  ⟨k.os.trans h.os, k.tape.trans h.tape, k.output.trans h.output, Nat.le_trans h.size k.size,
    fun i hi hs => (k.block i (Nat.lt_of_lt_of_le hi h.size) (fun e => hs (hr i e.symm hi))).trans (h.block i hi hs)⟩
theorem Fr.cell {S : Nat → Prop} {a b : World} (h : Fr S a b) {p : Addr} (hp : p.block < a.heap.size) (hs : ¬ S p.block) : b.cell? p = a.cell? p := World.cell?_of_block (h.block _ hp hs)

/-- The four captured variables of lookupEmbedded's round. -/
structure Acc (w : World) (c0 c1 c2 c3 : Nat) (cnt : Int) (obj ix : Value) (ind : Bool) : Prop where
  h0 : w.heap[c0]? = some (.cells #[.int .i64 cnt] 3 (0, 0))
  h1 : w.heap[c1]? = some (.cells #[obj] 61 (0, 0))
  h2 : w.heap[c2]? = some (.cells #[ix] 62 (0, 0))
  h3 : w.heap[c3]? = some (.cells #[.bool ind] 4 (0, 0))

theorem Acc.ne {w : World} {c0 c1 c2 c3 : Nat} {cnt : Int} {obj ix : Value} {ind : Bool} (h : Acc w c0 c1 c2 c3 cnt obj ix ind) :
    c0 ≠ c1 ∧ c0 ≠ c2 ∧ c0 ≠ c3 ∧ c1 ≠ c2 ∧ c1 ≠ c3 ∧ c2 ≠ c3 := by
  obtain ⟨h0, h1, h2, h3⟩ := h
  refine ⟨?_, ?_, ?_, ?_, ?_, ?_⟩ <;> rintro rfl
  · rw [h0] at h1; simp at h1
  · rw [h0] at h2; simp at h2
  · rw [h0] at h3; simp at h3
  · rw [h1] at h2; simp at h2
  · rw [h1] at h3; simp at h3
  · rw [h2] at h3; simp at h3
theorem Acc.lt {w : World} {c0 c1 c2 c3 : Nat} {cnt : Int} {obj ix : Value} {ind : Bool} (h : Acc w c0 c1 c2 c3 cnt obj ix ind) :
    c0 < w.heap.size ∧ c1 < w.heap.size ∧ c2 < w.heap.size ∧ c3 < w.heap.size := ⟨lt_of_block h.h0, lt_of_block h.h1, lt_of_block h.h2, lt_of_block h.h3⟩
theorem Acc.kept {S : Nat → Prop} {w w' : World} {c0 c1 c2 c3 : Nat} {cnt : Int} {obj ix : Value} {ind : Bool} (h : Acc w c0 c1 c2 c3 cnt obj ix ind) (hf : Fr S w w') (s0 : ¬ S c0) (s1 : ¬ S c1) (s2 : ¬ S c2) (s3 : ¬ S c3) : Acc w' c0 c1 c2 c3 cnt obj ix ind := by
  obtain ⟨l0, l1, l2, l3⟩ := h.lt
  exact ⟨(hf.block c0 l0 s0).trans h.h0, (hf.block c1 l1 s1).trans h.h1, (hf.block c2 l2 s2).trans h.h2, (hf.block c3 l3 s3).trans h.h3⟩
end Go.Proofs.Ybulkhuy
