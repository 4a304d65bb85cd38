/-
  The Named types that LawS0427AStruct builds: one Named while its methods are laid (M2); the three (NB).
-/
import Derived.Test.YbulkhuyPl2
import Derived.Test.YbulkhuyR2
import Derived.Deep.OwnRows
namespace Go.Proofs.Ybulkhuy
open Go.RowKit

/-- A Func or a Var as a block. -/
def ObjB (w : World) (b P i t : Nat) : Prop := ∃ c, w.heap[b]? = some (.cells c t (0, 0)) ∧ c[0]? = some (.string (nmB i)) ∧ c[5]? = some (.pointer (some ⟨P, 0, none⟩))
theorem ObjB.at {w : World} {b P i t : Nat} (h : ObjB w b P i t) : ObjAt w b P i := by
  obtain ⟨c, h1, h2, h3⟩ := h
  exact ⟨(cell_of_row w b 0 _ _ _ h1).trans h2, (cell_of_row w b 5 _ _ _ h1).trans h3⟩
theorem ObjB.fr {S : Nat → Prop} {w w' : World} {b P i t : Nat} (h : ObjB w b P i t) (hf : Fr S w w') (hs : ¬ S b) : ObjB w' b P i t := by
  obtain ⟨c, h1, h2⟩ := h
  exact ⟨c, (hf.block b (lt_of_block h1) hs).trans h1, h2⟩

def ptrs (F : Nat → Nat) (n : Nat) : List Value := (List.range n).map (fun i => .pointer (some ⟨F i, 0, none⟩))
theorem ptrs_succ (F : Nat → Nat) (n : Nat) : ptrs F (n + 1) = ptrs F n ++ [.pointer (some ⟨F n, 0, none⟩)] := by simp [ptrs, List.range_succ]
theorem ptrs_congr (F G : Nat → Nat) (n : Nat) (h : ∀ i, i < n → F i = G i) : ptrs F n = ptrs G n := by
  unfold ptrs
  exact List.map_congr_left fun i hi => by rw [h i (List.mem_range.1 hi)]
theorem ptrs_get (F : Nat → Nat) (n i : Nat) (h : i < n) : (ptrs F n)[i]? = some (.pointer (some ⟨F i, 0, none⟩)) := by
  unfold ptrs
  rw [List.getElem?_map, List.getElem?_range h]; rfl

/-- One Named, behind j bits of its mask. W0: the world in which the inner loop begins. -/
structure M2 (W0 wx : World) (P nb S m j : Nat) (ao : Option Addr) (cp : Nat) (F : Nat → Nat) : Prop where
  fr : Fr (· = nb) W0 wx
  blk : wx.heap[nb]? = some (.cells #[.pointer none, .iface 32 (.pointer (some ⟨S, 0, none⟩)), .slice ao (bl m j).length cp] 42 (0, 0))
  own : wx.ownsRow (nb + 1) 44 1 (.slice ao (bl m j).length cp) (bl m j).length (ptrs F (bl m j).length)
  obj : ∀ i, i < (bl m j).length → ObjB wx (F i) P ((bl m j).getD i 0) 51 ∧ nb < F i

theorem M2.start {wr : World} {P S m : Nat} (hS : S = wr.heap.size) (c : Array Value) :
    M2 ((wr.alloc (.cells c 36)).alloc (.cells #[.pointer none, .iface 32 (.pointer (some ⟨S, 0, none⟩)), .slice none 0 0] 42)) ((wr.alloc (.cells c 36)).alloc (.cells #[.pointer none, .iface 32 (.pointer (some ⟨S, 0, none⟩)), .slice none 0 0] 42)) P (S + 1) S m 0 none 0 (fun _ => 0) := by
  subst hS
  refine ⟨Fr.refl _ _, ?_, ⟨rfl, .inl ⟨rfl, rfl⟩⟩, fun i hi => absurd hi (Nat.not_lt_zero _)⟩
  have := heap_alloc_new (wr.alloc (.cells c 36)) (.cells #[.pointer none, .iface 32 (.pointer (some ⟨wr.heap.size, 0, none⟩)), .slice none 0 0] 42)
  simpa [bl] using this

theorem M2.skip {W0 wx : World} {P nb S m j : Nat} {ao : Option Addr} {cp : Nat} {F : Nat → Nat} (h : M2 W0 wx P nb S m j ao cp F) (hb : ¬ m / 2 ^ j % 2 = 1) : M2 W0 wx P nb S m (j + 1) ao cp F := by
  have e : bl m (j + 1) = bl m j := by simp [bl, hb]
  refine ⟨h.fr, ?_, ?_, ?_⟩
  · rw [e]; exact h.blk
  · rw [e]; exact h.own
  · rw [e]; exact h.obj

theorem M2.hit {W0 wx wa w3 : World} {P nb S m j : Nat} {ao : Option Addr} {cp g' cp' fb : Nat} {F : Nat → Nat} {c1 c2 c3 c4 c6 : Value} {o2 : Obj} (h : M2 W0 wx P nb S m j ao cp F) (hb : m / 2 ^ j % 2 = 1) (hnb : W0.heap.size = nb + 1)
    (hfb : fb = wx.heap.size) (hwa : wa = (wx.alloc (.cells #[.string (nmB j), c1, c2, c3, c4, .pointer (some ⟨P, 0, none⟩), c6] 51)).alloc o2)
    (hown : w3.ownsRow (nb + 1) 44 1 (.slice (some ⟨g', 0, none⟩) ((bl m j).length + 1) cp') ((bl m j).length + 1) (ptrs F (bl m j).length ++ [.pointer (some ⟨fb, 0, none⟩)]))
    (hg : wa.drew.grownBy w3 (Value.slice ao (bl m j).length cp).ownBlock) :
    M2 W0 (w3.setCell ⟨nb, 2, none⟩ (.slice (some ⟨g', 0, none⟩) ((bl m j).length + 1) cp')) P nb S m (j + 1) (some ⟨g', 0, none⟩) cp' (fun i => if i = (bl m j).length then fb else F i) := by
  have e : bl m (j + 1) = bl m j ++ [j] := by simp [bl, hb]
  have hlen : (bl m (j + 1)).length = (bl m j).length + 1 := by rw [e]; simp
  have hrow : ∀ k, (Value.slice ao (bl m j).length cp).ownBlock = some k → nb + 1 ≤ k ∧ k < wx.heap.size := fun k hk => h.own.lt k hk
  have hsz := h.fr.size
  have hblk : ∀ k o, wx.heap[k]? = some o → ((Value.slice ao (bl m j).length cp).ownBlock ≠ some k) → w3.heap[k]? = some o := by
    intro k o ho hne
    have hlt := lt_of_block ho
    rw [hg.block k (by show k < wa.heap.size; rw [hwa]; simp; omega) (Ne.symm hne)]
    show wa.heap[k]? = _
    rw [hwa, heap_alloc_old _ _ (by simp; omega), heap_alloc_old _ _ hlt]
    exact ho
  have hty : ∀ k c t, wx.heap[k]? = some (.cells c t (0, 0)) → t ≠ 44 → (Value.slice ao (bl m j).length cp).ownBlock ≠ some k := by
    intro k c t hc ht e
    rcases h.own.2 with ⟨h0, _⟩ | ⟨g, cq, cur, h0, _, hgg, _⟩
    · rw [h0] at e; simp [Value.ownBlock] at e
    · rw [h0] at e
      simp [Value.ownBlock] at e
      subst e
      rw [hc] at hgg
      simp at hgg
      exact ht hgg.2
  have hnb3 := hblk nb _ h.blk (hty nb _ _ h.blk (by decide))
  have hfr : Fr (· = nb) W0 w3 := by
    refine ⟨hg.os.trans ?_, hg.tape.trans ?_, hg.output.trans ?_, ?_, ?_⟩
    · rw [hwa]; exact h.fr.os
    · rw [hwa]; exact h.fr.tape
    · rw [hwa]; exact h.fr.output
    · have := hg.size
      rw [hwa] at this
      simp at this
      omega
    · intro k hk' hns
      rw [hg.block k (by show k < wa.heap.size; rw [hwa]; simp; omega) (fun e => by have := hrow _ e.symm; omega)]
      show wa.heap[k]? = _
      rw [hwa, heap_alloc_old _ _ (by simp; omega), heap_alloc_old _ _ (by omega)]
      exact h.fr.block k hk' hns
  have hfbs : (bl m j).length ≤ j := bl_len m j
  refine ⟨hfr.setCell (p := ⟨nb, 2, none⟩) (fun _ => rfl) _, ?_, ?_, ?_⟩
  · rw [heap_setCell_same _ nb 2 _ _ _ hnb3, hlen]; rfl
  · rw [hlen, ptrs_succ]
    simp only [if_true]
    rw [ptrs_congr (fun i => if i = (bl m j).length then fb else F i) F _ (fun i hi => by simp [Nat.ne_of_lt hi])]
    refine ⟨hown.1, ?_⟩
    rcases hown.2 with h0 | ⟨g, cq, cur, h0, hbg, hgg, rest⟩
    · exact .inl h0
    · exact .inr ⟨g, cq, cur, h0, hbg, by rw [heap_setCell_other _ _ _ _ (by show g ≠ nb; omega)]; exact hgg, rest⟩
  · rw [hlen]
    intro i hi
    by_cases ei : i = (bl m j).length
    · subst ei
      simp only [if_true]
      have h3 : w3.heap[fb]? = some (.cells #[.string (nmB j), c1, c2, c3, c4, .pointer (some ⟨P, 0, none⟩), c6] 51 (0, 0)) := by
        rw [hfb, hg.block wx.heap.size (by show wx.heap.size < wa.heap.size; rw [hwa]; simp; omega) (fun e => by have := hrow _ e.symm; omega)]
        show wa.heap[wx.heap.size]? = _
        rw [hwa, heap_alloc_old _ _ (by simp)]
        exact heap_alloc_new wx _
      refine ⟨⟨#[.string (nmB j), c1, c2, c3, c4, .pointer (some ⟨P, 0, none⟩), c6], ?_, ?_, rfl⟩, by omega⟩
      · rw [heap_setCell_other _ _ _ _ (by show fb ≠ nb; omega)]; exact h3
      · rw [e]
        simp
    · simp only [if_neg ei]
      have hi' : i < (bl m j).length := by omega
      obtain ⟨⟨c, h1, h2, h3⟩, h4⟩ := h.obj i hi'
      refine ⟨⟨c, ?_, ?_, h3⟩, h4⟩
      · rw [heap_setCell_other _ _ _ _ (by show F i ≠ nb; omega)]
        exact hblk _ _ h1 (hty _ _ _ h1 (by decide))
      · rw [e, List.getD_eq_getElem?_getD, List.getElem?_append_left hi', ← List.getD_eq_getElem?_getD]; exact h2

theorem M2.named {W0 wx : World} {P nb S m : Nat} {ao : Option Addr} {cp : Nat} {F : Nat → Nat} (h : M2 W0 wx P nb S m 4 ao cp F) (hS : wx.cell? ⟨S, 0, none⟩ = some (.slice none 0 0)) :
    NamedAt wx P nb S ao (bl m 4).length cp F (fun i => (bl m 4).getD i 0) ∧ (∀ g, ao = some ⟨g, 0, none⟩ → nb < g) := by
  refine ⟨⟨h.blk, hS, ?_, bl_len m 4⟩, ?_⟩
  · intro h0
    rcases h.own.2 with ⟨h1, h2⟩ | ⟨g, cq, cur, h1, hb, hg, _, _, hsz, hcur⟩
    · omega
    · simp at h1
      obtain ⟨rfl, rfl⟩ := h1
      refine ⟨g, rfl, fun k hk => ⟨?_, (h.obj k hk).1.at, ?_⟩⟩
      · rw [cell_of_row wx g k _ _ _ hg]
        have e1 : cur[k]? = cur.toList[k]? := by simp
        have e2 : (cur.toList.take ((bl m 4).length * 1))[k]? = cur.toList[k]? := by rw [List.getElem?_take, if_pos (by omega)]
        rw [e1, ← e2, hcur]
        exact ptrs_get F _ k hk
      · have hm : (bl m 4).getD k 0 ∈ bl m 4 := by rw [List.getD_eq_getElem?_getD, List.getElem?_eq_getElem hk]; exact List.getElem_mem hk
        exact bl_lt m 4 _ hm
  · intro g hg
    subst hg
    rcases h.own.2 with ⟨h1, _⟩ | ⟨g, cq, cur, h1, hb, _⟩
    · cases h1
    · simp at h1
      omega

/-- A Named is as it was where blocks of S alone were written. -/
theorem NamedAt.fr {S' : Nat → Prop} {W W' : World} {P b S : Nat} {ao : Option Addr} {cn cp : Nat} {MB MI : Nat → Nat} (h : NamedAt W P b S ao cn cp MB MI) (hf : Fr S' W W') (hb : ¬ S' b) (hS : ¬ S' S) (hg : ∀ g, ao = some ⟨g, 0, none⟩ → ¬ S' g)
    (hm : ∀ i, i < cn → ¬ S' (MB i)) : NamedAt W' P b S ao cn cp MB MI := by
  refine ⟨(hf.block b (lt_of_block h.blk) hb).trans h.blk, (hf.cell (World.block_lt_of_cell? W _ h.str) hS).trans h.str, fun h0 => ?_, h.le⟩
  obtain ⟨g, e, hc⟩ := h.fns h0
  refine ⟨g, e, fun k hk => ?_⟩
  obtain ⟨h1, h2, h3⟩ := hc k hk
  exact ⟨(hf.cell (World.block_lt_of_cell? W _ h1) (hg g e)).trans h1, ⟨(hf.cell (World.block_lt_of_cell? W _ h2.1) (hm k hk)).trans h2.1, (hf.cell (World.block_lt_of_cell? W _ h2.2) (hm k hk)).trans h2.2⟩, h3⟩

/-- The three Named, behind k of them. -/
structure NB (wr : World) (Mk N0 P A : Nat) (M : Nat → Nat) (k : Nat) (N S cp : Nat → Nat) (aom : Nat → Option Addr) (MB : Nat → Nat → Nat) : Prop where
  names : ∀ t, t < 4 → wr.cell? ⟨N0, t, none⟩ = some (.string (nmB t))
  masks : ∀ t, t < 3 → wr.cell? ⟨Mk, t, none⟩ = some (.int .u8 (M t))
  arr : wr.rowIs A 31 3 (fun t => if t < k then .pointer (some ⟨N t, 0, none⟩) else .pointer none)
  nmd : ∀ t, t < k → NamedAt wr P (N t) (S t) (aom t) (bl (M t % 16) 4).length (cp t) (MB t) (fun i => (bl (M t % 16) 4).getD i 0) ∧ A < N t ∧ A < S t ∧ (∀ g, aom t = some ⟨g, 0, none⟩ → A < g) ∧ ∀ i, i < (bl (M t % 16) 4).length → A < MB t i
  inj : ∀ i j, i < k → j < k → N i = N j → i = j
  ord : N0 < A ∧ Mk < A

theorem NB.step {wr wx : World} {Mk N0 P A : Nat} {M : Nat → Nat} {k : Nat} {N S cp : Nat → Nat} {aom : Nat → Option Addr} {MB : Nat → Nat → Nat} (h : NB wr Mk N0 P A M k N S cp aom MB) (hk : k < 3)
    {ao : Option Addr} {cpk : Nat} {F : Nat → Nat} {c : Array Value} (hc : c[0]? = some (.slice none 0 0))
    (h2 : M2 ((wr.alloc (.cells c 36)).alloc (.cells #[.pointer none, .iface 32 (.pointer (some ⟨wr.heap.size, 0, none⟩)), .slice none 0 0] 42)) wx P (wr.heap.size + 1) wr.heap.size (M k % 16) 4 ao cpk F) :
    NB (wx.setCell ⟨A, k, none⟩ (.pointer (some ⟨wr.heap.size + 1, 0, none⟩))) Mk N0 P A M (k + 1) (fun t => if t = k then wr.heap.size + 1 else N t) (fun t => if t = k then wr.heap.size else S t) (fun t => if t = k then cpk else cp t) (fun t => if t = k then ao else aom t) (fun t => if t = k then F else MB t) := by
  have lA := h.arr.lt
  obtain ⟨o1, o2⟩ := h.ord
  have hfr0 : Fr (fun _ => False) wr ((wr.alloc (.cells c 36)).alloc (.cells #[.pointer none, .iface 32 (.pointer (some ⟨wr.heap.size, 0, none⟩)), .slice none 0 0] 42)) := ((Fr.refl _ wr).alloc _).alloc _
  have hfr : Fr (fun _ => False) wr wx := by
    refine ⟨h2.fr.os.trans hfr0.os, h2.fr.tape.trans hfr0.tape, h2.fr.output.trans hfr0.output, Nat.le_trans hfr0.size h2.fr.size, fun i hi _ => ?_⟩
    rw [h2.fr.block i (Nat.lt_of_lt_of_le hi hfr0.size) (by omega)]
    exact hfr0.block i hi (fun x => x)
  have hfa : Fr (· = A) wr (wx.setCell ⟨A, k, none⟩ (.pointer (some ⟨wr.heap.size + 1, 0, none⟩))) := (hfr.mono (T := (· = A)) (fun _ _ h => h.elim)).setCell (p := ⟨A, k, none⟩) (fun _ => rfl) _
  have hfx : Fr (· = A) wx (wx.setCell ⟨A, k, none⟩ (.pointer (some ⟨wr.heap.size + 1, 0, none⟩))) := (Fr.refl (· = A) wx).setCell (p := ⟨A, k, none⟩) (fun _ => rfl) _
  have hS : wx.cell? ⟨wr.heap.size, 0, none⟩ = some (.slice none 0 0) := by
    rw [h2.fr.cell (p := ⟨wr.heap.size, 0, none⟩) (by simp; omega) (by show ¬ wr.heap.size = wr.heap.size + 1; omega), World.cell?_alloc_past _ _ _ (by simp), World.cell?_alloc_at _ _ _ _ rfl]
    exact hc
  obtain ⟨hN, hgN⟩ := h2.named hS
  refine ⟨fun t ht => ?_, fun t ht => ?_, ?_, fun t ht => ?_, fun i j hi hj e => ?_, h.ord⟩
  · rw [hfa.cell (p := ⟨N0, t, none⟩) (World.block_lt_of_cell? wr _ (h.names t ht)) (by show ¬ N0 = A; omega)]; exact h.names t ht
  · rw [hfa.cell (p := ⟨Mk, t, none⟩) (World.block_lt_of_cell? wr _ (h.masks t ht)) (by show ¬ Mk = A; omega)]; exact h.masks t ht
  · refine ((h.arr.of_block (hfr.block A lA (fun x => x))).set k _).congr (fun i _ => ?_)
    by_cases e : i = k
    · simp [e]
    · have : (i < k + 1) = (i < k) := by simp; omega
      simp [e, this]
  · by_cases e : t = k
    · subst e
      simp only [if_true]
      refine ⟨hN.fr hfx (by omega) (by omega) (fun g hg => by have := hgN g hg; omega) (fun i hi => by have := (h2.obj i hi).2; omega), by omega, by omega, fun g hg => by have := hgN g hg; omega, fun i hi => by have := (h2.obj i hi).2; omega⟩
    · simp only [if_neg e]
      obtain ⟨n1, n2, n3, n4, n5⟩ := h.nmd t (by omega)
      exact ⟨n1.fr hfa (by omega) (by omega) (fun g hg => by have := n4 g hg; omega) (fun i hi => by have := n5 i hi; omega), n2, n3, n4, n5⟩
  · by_cases ei : i = k <;> by_cases ej : j = k
    · omega
    · exfalso
      simp only [ei, ej, if_true, if_false] at e
      have := lt_of_block (h.nmd j (by omega)).1.blk
      omega
    · exfalso
      simp only [ei, ej, if_true, if_false] at e
      have := lt_of_block (h.nmd i (by omega)).1.blk
      omega
    · simp only [ei, ej, if_false] at e
      exact h.inj i j (by omega) (by omega) e
end Go.Proofs.Ybulkhuy
