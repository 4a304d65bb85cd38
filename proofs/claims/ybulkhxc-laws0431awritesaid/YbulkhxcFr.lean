/-
  A frame: what is left of the world where some blocks may be written.
-/
import Derived.Test.YbulkhxcRows
import Derived.WalkKit
import Derived.WalkSpells
import Derived.WalkLawsBesides
namespace Go.Proofs.Ybulkhxc
open Go.RowKit

/-- w' is w with new blocks, and with writes to blocks of S alone. -/
structure Fr (S : Nat → Prop) (w w' : World) : Prop where
  os : w'.os = w.os
  tape : w'.tape = w.tape
  output : w'.output = w.output
  size : w.heap.size ≤ w'.heap.size
  block : ∀ k, k < w.heap.size → ¬ S k → w'.heap[k]? = w.heap[k]?

theorem Fr.refl (S : Nat → Prop) (w : World) : Fr S w w := ⟨rfl, rfl, rfl, Nat.le_refl _, fun _ _ _ => rfl⟩
theorem Fr.trans {S : Nat → Prop} {a b c : World} (h : Fr S a b) (k : Fr S b c) : Fr S a c :=
  ⟨k.os.trans h.os, k.tape.trans h.tape, k.output.trans h.output, Nat.le_trans h.size k.size, fun i hi hs => (k.block i (Nat.lt_of_lt_of_le hi h.size) hs).trans (h.block i hi hs)⟩
theorem Fr.mono {S T : Nat → Prop} {a b : World} (h : Fr S a b) (hs : ∀ k, k < a.heap.size → S k → T k) : Fr T a b :=
  ⟨h.os, h.tape, h.output, h.size, fun i hi ht => h.block i hi (fun hsi => ht (hs i hi hsi))⟩
theorem Fr.alloc {S : Nat → Prop} {a b : World} (h : Fr S a b) (o : Obj) : Fr S a (b.alloc o) :=
  ⟨h.os, h.tape, h.output, by simp; exact Nat.le_succ_of_le h.size, fun i hi hs => (heap_alloc_old b o (Nat.lt_of_lt_of_le hi h.size)).trans (h.block i hi hs)⟩
theorem Fr.setCell {S : Nat → Prop} {a b : World} (h : Fr S a b) {p : Addr} (hp : p.block < a.heap.size → S p.block) (v : Value) : Fr S a (b.setCell p v) :=
  ⟨h.os, h.tape, h.output, by simpa using h.size, fun i hi hs => (heap_setCell_other b p i v (fun e => hs (e ▸ hp (e ▸ hi)))).trans (h.block i hi hs)⟩
theorem Fr.drew {S : Nat → Prop} {a b : World} (h : Fr S a b) : Fr S a b.drew := ⟨h.os, h.tape, h.output, h.size, h.block⟩
theorem Fr.drewN {S : Nat → Prop} {a b : World} (h : Fr S a b) (n : Nat) : Fr S a (b.drewN n) := ⟨h.os, h.tape, h.output, h.size, h.block⟩
theorem Fr.below {S : Nat → Prop} {a b c : World} (h : Fr S a b) (k : Below b.heap.size b c) : Fr S a c :=
  ⟨k.os.trans h.os, k.tape.trans h.tape, k.output.trans h.output, Nat.le_trans h.size k.size, fun i hi hs => (k.block i (Nat.lt_of_lt_of_le hi h.size)).trans (h.block i hi hs)⟩
theorem Fr.to_below {S : Nat → Prop} {a b : World} {B : Nat} (h : Fr S a b) (hB : B ≤ a.heap.size) (hs : ∀ k, k < B → ¬ S k) : Below B a b :=
  ⟨h.os, h.tape, h.output, h.size, fun i hi => h.block i (Nat.lt_of_lt_of_le hi hB) (hs i hi)⟩
theorem Fr.grown {S : Nat → Prop} {a b c : World} {row : Option Nat} (h : Fr S a b) (k : b.grownBy c row) (hr : ∀ g, row = some g → g < a.heap.size → S g) : Fr S a c :=
  ⟨k.os.trans h.os, k.tape.trans h.tape, k.output.trans h.output, Nat.le_trans h.size k.size,
    fun i hi hs => (k.block i (Nat.lt_of_lt_of_le hi h.size) (fun e => hs (hr i e.symm hi))).trans (h.block i hi hs)⟩
theorem Fr.cell {S : Nat → Prop} {a b : World} (h : Fr S a b) {p : Addr} (hp : p.block < a.heap.size) (hs : ¬ S p.block) : b.cell? p = a.cell? p := World.cell?_of_block (h.block _ hp hs)

theorem hid {p : Prop} (h : p) : Hid p := h
theorem hid_of {p : Prop} (h : p) : Hid p := h
end Go.Proofs.Ybulkhxc
