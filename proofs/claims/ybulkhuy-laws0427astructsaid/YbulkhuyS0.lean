/-
  Small facts for the walk of LawS0427AStruct.
-/
import Derived.Test.YbulkhuyA5
namespace Go.Proofs.Ybulkhuy
open Go.RowKit

set_option maxRecDepth 100000 in
theorem Yba.info44s : (Yba.prog.info? 44).map (fun i => (i.zero, i.size, i.bytes)) = some (some (.pointer none), 1, 8) := by kernel_rfl

theorem and_one_all : ∀ m : Nat, m < 16 → ∀ j : Nat, j < 4 → bits BinOp.and IntKind.u8 ((m : Int) / 2 ^ j) 1 = ((m / 2 ^ j % 2 : Nat) : Int) := by decide
theorem and_one (m : Nat) (hm : m < 16) (j : Nat) (hj : j < 4) : bits BinOp.and IntKind.u8 ((m : Int) / 2 ^ j) 1 = ((m / 2 ^ j % 2 : Nat) : Int) := and_one_all m hm j hj

theorem bl_in_all : ∀ m : Nat, m < 16 → ∀ s : Nat, s < 4 → m / 2 ^ s % 2 = 1 → (bl m s).length < (bl m 4).length := by decide
theorem bl_in (m s : Nat) (hm : m < 16) (hs : s < 4) (h : m / 2 ^ s % 2 = 1) : (bl m s).length < (bl m 4).length := bl_in_all m hm s hs h
theorem bl_step1 (m j : Nat) (h : m / 2 ^ j % 2 = 1) : (bl m (j + 1)).length = (bl m j).length + 1 := by simp [bl, h]
theorem bl_step0 (m j : Nat) (h : ¬ m / 2 ^ j % 2 = 1) : (bl m (j + 1)).length = (bl m j).length := by simp [bl, h]

theorem M2.keep {W0 wx w3 : World} {P nb S m j : Nat} {ao : Option Addr} {cp : Nat} {F : Nat → Nat} {o1 o2 : Obj} (h : M2 W0 wx P nb S m j ao cp F)
    (hg : ((wx.alloc o1).alloc o2).drew.grownBy w3 (Value.slice ao (bl m j).length cp).ownBlock) :
    w3.heap[nb]? = some (.cells #[.pointer none, .iface 32 (.pointer (some ⟨S, 0, none⟩)), .slice ao (bl m j).length cp] 42 (0, 0)) := by
  have hlt := lt_of_block h.blk
  have hne : (Value.slice ao (bl m j).length cp).ownBlock ≠ some nb := by
    intro e
    rcases h.own.2 with ⟨h0, _⟩ | ⟨g, cq, cur, h0, _, hgg, _⟩
    · rw [h0] at e; simp [Value.ownBlock] at e
    · rw [h0] at e
      simp [Value.ownBlock] at e
      subst e
      rw [h.blk] at hgg
      simp at hgg
  rw [hg.block nb (by show nb < ((wx.alloc o1).alloc o2).heap.size; simp; omega) (Ne.symm hne)]
  show ((wx.alloc o1).alloc o2).heap[nb]? = _
  rw [heap_alloc_old _ _ (by simp; omega), heap_alloc_old _ _ hlt]
  exact h.blk
end Go.Proofs.Ybulkhuy
