/-
  Walk of lookupEmbedded's closure 'note' (8).
-/
import Derived.Test.YbulkhuyIdx
import Derived.Test.YbulkhuyFr
namespace Go.Proofs.Ybulkhuy
open Go.RowKit

/-- The world behind 'note', up to draws: the box of e, the count raised, the path laid, the three variables set. -/
theorem note_world {w W0 : World} {c0 c1 c2 c3 : Nat} {cnt cnt' : Int} {o1 o2 obj : Value} {o3 ind : Bool} {box : Array Value} {cs : Array Value} {v : Value} (h : Acc w c0 c1 c2 c3 cnt o1 o2 o3)
    (hW : (w.setCell ⟨c0, 0, none⟩ (.int .i64 cnt')).alloc (.cells box 78) = W0) :
    let w' := ((((W0.setCell ⟨c1, 0, none⟩ obj).setCell ⟨c2, 0, none⟩ v).setCell ⟨c3, 0, none⟩ (.bool ind)).alloc (.cells cs 3)).drew
    Acc w' c0 c1 c2 c3 cnt' obj v ind ∧ w'.heap[w.heap.size + 1]? = some (.cells cs 3 (0, 0)) ∧ Fr (fun k => k = c0 ∨ k = c1 ∨ k = c2 ∨ k = c3) w w' := by
  intro w'
  obtain ⟨n01, n02, n03, n12, n13, n23⟩ := h.ne
  obtain ⟨l0, l1, l2, l3⟩ := h.lt
  have hs0 : W0.heap.size = w.heap.size + 1 := by rw [← hW]; simp
  have e : ∀ k, k < w.heap.size → W0.heap[k]? = (w.setCell ⟨c0, 0, none⟩ (.int .i64 cnt')).heap[k]? := fun k hk => by rw [← hW]; exact heap_alloc_old _ _ (by simpa using hk)
  have b0 : W0.heap[c0]? = some (.cells #[.int .i64 cnt'] 3 (0, 0)) := (e c0 l0).trans (one_setCell h.h0)
  have b1 : W0.heap[c1]? = some (.cells #[o1] 61 (0, 0)) := (e c1 l1).trans ((heap_setCell_other _ _ _ _ (Ne.symm n01)).trans h.h1)
  have b2 : W0.heap[c2]? = some (.cells #[o2] 62 (0, 0)) := (e c2 l2).trans ((heap_setCell_other _ _ _ _ (Ne.symm n02)).trans h.h2)
  have b3 : W0.heap[c3]? = some (.cells #[.bool o3] 4 (0, 0)) := (e c3 l3).trans ((heap_setCell_other _ _ _ _ (Ne.symm n03)).trans h.h3)
  have f0 : Fr (fun k => k = c0 ∨ k = c1 ∨ k = c2 ∨ k = c3) w W0 := by
    rw [← hW]
    exact ((Fr.refl _ _).setCell (fun _ => .inl rfl) _).alloc _
  refine ⟨⟨?_, ?_, ?_, ?_⟩, ?_, ?_⟩
  · refine (heap_alloc_old _ _ (by simp; omega)).trans ?_
    rw [heap_setCell_other _ _ _ _ n03, heap_setCell_other _ _ _ _ n02, heap_setCell_other _ _ _ _ n01]; exact b0
  · refine (heap_alloc_old _ _ (by simp; omega)).trans ?_
    rw [heap_setCell_other _ _ _ _ n13, heap_setCell_other _ _ _ _ n12]; exact one_setCell b1
  · refine (heap_alloc_old _ _ (by simp; omega)).trans ?_
    rw [heap_setCell_other _ _ _ _ n23]
    exact one_setCell ((heap_setCell_other _ _ _ _ (Ne.symm n12)).trans b2)
  · refine (heap_alloc_old _ _ (by simp; omega)).trans ?_
    refine one_setCell (v := .bool o3) ?_
    rw [heap_setCell_other _ _ _ _ (Ne.symm n23), heap_setCell_other _ _ _ _ (Ne.symm n13)]; exact b3
  · have := heap_alloc_new (((W0.setCell ⟨c1, 0, none⟩ obj).setCell ⟨c2, 0, none⟩ v).setCell ⟨c3, 0, none⟩ (.bool ind)) (.cells cs 3)
    simp only [World.size_setCell, hs0] at this
    exact this
  · exact (((((f0.setCell (fun _ => .inr (.inl rfl)) _).setCell (fun _ => .inr (.inr (.inl rfl))) _).setCell (fun _ => .inr (.inr (.inr rfl))) _).alloc _).drew)

/-- What the region of the three stores finds. -/
theorem note_pre {w W0 : World} {c0 c1 c2 c3 : Nat} {cnt cnt' : Int} {o1 o2 : Value} {o3 : Bool} {ty ix : Value} {ind mult : Bool} (h : Acc w c0 c1 c2 c3 cnt o1 o2 o3)
    (hW : (w.setCell ⟨c0, 0, none⟩ (.int .i64 cnt')).alloc (.cells #[ty, ix, .bool ind, .bool mult] 78) = W0) :
    W0.heap.size = w.heap.size + 1 ∧ W0.cell? ⟨w.heap.size, 1, none⟩ = some ix ∧ W0.cell? ⟨w.heap.size, 2, none⟩ = some (.bool ind) ∧
      (W0.cell? ⟨c1, 0, none⟩ = some o1 ∧ W0.cell? ⟨c2, 0, none⟩ = some o2 ∧ W0.cell? ⟨c3, 0, none⟩ = some (.bool o3)) ∧
      (W0.frozen? ⟨c1, 0, none⟩ = false ∧ W0.frozen? ⟨c2, 0, none⟩ = false ∧ W0.frozen? ⟨c3, 0, none⟩ = false) ∧
      ∀ p : Addr, p.block < w.heap.size → p.block ≠ c0 → W0.cell? p = w.cell? p := by
  obtain ⟨n01, n02, n03, n12, n13, n23⟩ := h.ne
  obtain ⟨l0, l1, l2, l3⟩ := h.lt
  have e : ∀ k, k < w.heap.size → k ≠ c0 → W0.heap[k]? = w.heap[k]? := fun k hk hne => by
    rw [← hW]; exact (heap_alloc_old _ _ (by simpa using hk)).trans (heap_setCell_other _ _ _ _ hne)
  have b1 : W0.heap[c1]? = some (.cells #[o1] 61 (0, 0)) := (e c1 l1 (Ne.symm n01)).trans h.h1
  have b2 : W0.heap[c2]? = some (.cells #[o2] 62 (0, 0)) := (e c2 l2 (Ne.symm n02)).trans h.h2
  have b3 : W0.heap[c3]? = some (.cells #[.bool o3] 4 (0, 0)) := (e c3 l3 (Ne.symm n03)).trans h.h3
  refine ⟨by rw [← hW]; simp, ?_, ?_, ⟨cell_of_one b1, cell_of_one b2, cell_of_one b3⟩, ⟨free_of_one b1, free_of_one b2, free_of_one b3⟩, fun p hp hne => World.cell?_of_block (e _ hp hne)⟩
  · rw [← hW, World.cell?_alloc_at _ _ _ _ (by simp)]; rfl
  · rw [← hW, World.cell?_alloc_at _ _ _ _ (by simp)]; rfl

set_option maxRecDepth 100000 in
set_option maxHeartbeats 1000000 in
theorem note_nil (ty : Value) (T ob : Nat) (ind o3 : Bool) (i cnt : Int) (c0 c1 c2 c3 : Nat) (o1 o2 : Value) (w : World) (h : Acc w c0 c1 c2 c3 cnt o1 o2 o3) (hc : 0 ≤ cnt) (hc' : cnt ≤ 100000) :
    Calls Yba.prog 8 #[.agg #[ty, .slice none 0 0, .bool ind, .bool false], .iface T (.pointer (some ⟨ob, 0, none⟩)), .int .i64 i, .pointer (some ⟨c0, 0, none⟩), .pointer (some ⟨c1, 0, none⟩), .pointer (some ⟨c2, 0, none⟩), .pointer (some ⟨c3, 0, none⟩)] w
      fun e w' => e = .returned (.tuple #[]) ∧ Acc w' c0 c1 c2 c3 (cnt + 1) (.iface T (.pointer (some ⟨ob, 0, none⟩))) (.slice (some ⟨w.heap.size + 1, 0, none⟩) 1 1) ind ∧ w'.heap[w.heap.size + 1]? = some (.cells #[.int .i64 i] 3 (0, 0)) ∧ Fr (fun k => k = c0 ∨ k = c1 ∨ k = c2 ∨ k = c3) w w' := by
  have HA : Hid (Acc w c0 c1 c2 c3 cnt o1 o2 o3) := h
  obtain ⟨l0, l1, l2, l3⟩ := h.lt
  have k0 := cell_of_one h.h0
  have f0 := free_of_one h.h0
  clear h
  go_enter Yba.func8, Yba.ntmps8
  go_wp2_with fail
  generalize hW : (w.setCell ⟨c0, 0, none⟩ (.int .i64 (cnt + 1))).alloc (.cells #[ty, .slice none 0 0, .bool ind, .bool false] 78) = W0
  obtain ⟨hz, b1, b2, ⟨k1, k2, k3⟩, ⟨f1, f2, f3⟩, _⟩ := note_pre HA.out hW
  have HW : Hid _ := hW
  have n1 : c1 ≠ w.heap.size := by omega
  have n2 : c2 ≠ w.heap.size := by omega
  have n3 : c3 ≠ w.heap.size := by omega
  obtain ⟨_, _, _, n12, n13, n23⟩ := HA.out.ne
  have HZ : Hid (W0.heap.size = w.heap.size + 1) := hz
  have z1 : c1 < W0.heap.size := by omega
  have z2 : c2 < W0.heap.size := by omega
  have z3 : c3 < W0.heap.size := by omega
  have z4 : w.heap.size < W0.heap.size := by omega
  clear hW k0 f0 hz
  go_region_held3 (fun w' => w'.cell? ⟨w.heap.size, 1, none⟩ = some (.slice none 0 0) ∧ w'.cell? ⟨w.heap.size, 2, none⟩ = some (.bool ind)) (go_keep)
    (first | (go_at_call 9; refine (appendIndex_nil i _).mono ?_; rintro e w' ⟨rfl, rfl⟩))
  go_wp2
  go_end0
  rw [HZ.out]
  exact ⟨rfl, note_world HA.out HW.out⟩

set_option maxRecDepth 100000 in
set_option maxHeartbeats 1000000 in
theorem note_one (ty : Value) (T ob pb : Nat) (ind mult o3 : Bool) (k i cnt : Int) (c0 c1 c2 c3 : Nat) (o1 o2 : Value) (w : World) (h : Acc w c0 c1 c2 c3 cnt o1 o2 o3) (hc : 0 ≤ cnt) (hc' : cnt ≤ 100000)
    (hp : w.cell? ⟨pb, 0, none⟩ = some (.int .i64 k)) (hp0 : pb ≠ c0) (hp1 : pb ≠ c1) (hp2 : pb ≠ c2) (hp3 : pb ≠ c3) :
    Calls Yba.prog 8 #[.agg #[ty, .slice (some ⟨pb, 0, none⟩) 1 1, .bool ind, .bool mult], .iface T (.pointer (some ⟨ob, 0, none⟩)), .int .i64 i, .pointer (some ⟨c0, 0, none⟩), .pointer (some ⟨c1, 0, none⟩), .pointer (some ⟨c2, 0, none⟩), .pointer (some ⟨c3, 0, none⟩)] w
      fun e w' => e = .returned (.tuple #[]) ∧ Acc w' c0 c1 c2 c3 (cnt + if mult then 2 else 1) (.iface T (.pointer (some ⟨ob, 0, none⟩))) (.slice (some ⟨w.heap.size + 1, 0, none⟩) 2 2) ind ∧ w'.heap[w.heap.size + 1]? = some (.cells #[.int .i64 k, .int .i64 i] 3 (0, 0)) ∧ Fr (fun k => k = c0 ∨ k = c1 ∨ k = c2 ∨ k = c3) w w' := by
  have HA : Hid (Acc w c0 c1 c2 c3 cnt o1 o2 o3) := h
  obtain ⟨l0, l1, l2, l3⟩ := h.lt
  have k0 := cell_of_one h.h0
  have f0 := free_of_one h.h0
  have lp := World.block_lt_of_cell? w _ hp
  clear h
  have HP : Hid _ := hp
  clear hp
  obtain ⟨cnt', hcnt⟩ : ∃ c : Int, c = cnt + if mult then 2 else 1 := ⟨_, rfl⟩
  rw [← hcnt]
  cases mult
  · simp only [Bool.false_eq_true, if_false] at hcnt
    have HC : Hid _ := hcnt
    clear hcnt
    go_enter Yba.func8, Yba.ntmps8
    go_wp2_with fail
    rw [← HC.out]
    generalize hW : (w.setCell ⟨c0, 0, none⟩ (.int .i64 cnt')).alloc (.cells #[ty, .slice (some ⟨pb, 0, none⟩) 1 1, .bool ind, .bool false] 78) = W0
    obtain ⟨hz, b1, b2, ⟨k1, k2, k3⟩, ⟨f1, f2, f3⟩, hold⟩ := note_pre HA.out hW
    have b3 : W0.cell? ⟨pb, 0, none⟩ = some (.int .i64 k) := (hold ⟨pb, 0, none⟩ lp hp0).trans HP.out
    have HW : Hid _ := hW
    have n1 : c1 ≠ w.heap.size := by omega
    have n2 : c2 ≠ w.heap.size := by omega
    have n3 : c3 ≠ w.heap.size := by omega
    obtain ⟨_, _, _, n12, n13, n23⟩ := HA.out.ne
    have HZ : Hid (W0.heap.size = w.heap.size + 1) := hz
    have z1 : c1 < W0.heap.size := by omega
    have z2 : c2 < W0.heap.size := by omega
    have z3 : c3 < W0.heap.size := by omega
    have z4 : w.heap.size < W0.heap.size := by omega
    have z5 : pb < W0.heap.size := by omega
    have m1 := Ne.symm hp1
    have m2 := Ne.symm hp2
    have m3 := Ne.symm hp3
    clear hW k0 f0 hz hold
    go_region_held3 (fun w' => w'.cell? ⟨w.heap.size, 1, none⟩ = some (.slice (some ⟨pb, 0, none⟩) 1 1) ∧ w'.cell? ⟨w.heap.size, 2, none⟩ = some (.bool ind) ∧ w'.cell? ⟨pb, 0, none⟩ = some (.int .i64 k)) (go_keep)
      (first | (go_at_call 9; refine (appendIndex_one pb k i _ ?_).mono ?_; (simp [*]); rintro e w' ⟨rfl, rfl⟩))
    go_wp2
    go_end0
    rw [HZ.out]
    exact ⟨rfl, note_world HA.out HW.out⟩
  · simp only [if_true] at hcnt
    have HC : Hid (cnt' = cnt + 1 + 1) := by rw [Hid, hcnt]; omega
    clear hcnt
    obtain ⟨w1, hw1⟩ : ∃ w1, w1 = w.setCell ⟨c0, 0, none⟩ (.int .i64 (cnt + 1)) := ⟨_, rfl⟩
    have hs1 : w1.heap.size = w.heap.size := by rw [hw1]; simp
    have HA1 : Hid (Acc w1 c0 c1 c2 c3 (cnt + 1) o1 o2 o3) := by
      rw [Hid, hw1]
      obtain ⟨n01, n02, n03, n12, n13, n23⟩ := HA.out.ne
      exact ⟨one_setCell HA.out.h0, (heap_setCell_other _ _ _ _ (Ne.symm n01)).trans HA.out.h1, (heap_setCell_other _ _ _ _ (Ne.symm n02)).trans HA.out.h2, (heap_setCell_other _ _ _ _ (Ne.symm n03)).trans HA.out.h3⟩
    have HF1 : Hid (Fr (fun k => k = c0 ∨ k = c1 ∨ k = c2 ∨ k = c3) w w1) := by rw [Hid, hw1]; exact (Fr.refl _ _).setCell (fun _ => .inl rfl) _
    have HP1 : Hid (w1.cell? ⟨pb, 0, none⟩ = some (.int .i64 k)) := by rw [Hid, hw1, World.cell?_setCell_far _ _ _ _ (Ne.symm hp0)]; exact HP.out
    have HS1 : Hid (w1.heap.size = w.heap.size) := hs1
    have HW1 : Hid _ := hw1
    clear hw1 hs1
    go_enter Yba.func8, Yba.ntmps8
    go_wp2_with fail
    rw [← HW1.out, ← HC.out]
    generalize hW : (w1.setCell ⟨c0, 0, none⟩ (.int .i64 cnt')).alloc (.cells #[ty, .slice (some ⟨pb, 0, none⟩) 1 1, .bool ind, .bool true] 78) = W0
    obtain ⟨hz, b1, b2, ⟨k1, k2, k3⟩, ⟨f1, f2, f3⟩, hold⟩ := note_pre HA1.out hW
    have b3 : W0.cell? ⟨pb, 0, none⟩ = some (.int .i64 k) := (hold ⟨pb, 0, none⟩ (by rw [HS1.out]; exact lp) hp0).trans HP1.out
    have HW : Hid _ := hW
    rw [HS1.out] at hz b1 b2
    have n1 : c1 ≠ w.heap.size := by omega
    have n2 : c2 ≠ w.heap.size := by omega
    have n3 : c3 ≠ w.heap.size := by omega
    obtain ⟨_, _, _, n12, n13, n23⟩ := HA.out.ne
    have HZ : Hid (W0.heap.size = w.heap.size + 1) := hz
    have z1 : c1 < W0.heap.size := by omega
    have z2 : c2 < W0.heap.size := by omega
    have z3 : c3 < W0.heap.size := by omega
    have z4 : w.heap.size < W0.heap.size := by omega
    have z5 : pb < W0.heap.size := by omega
    have m1 := Ne.symm hp1
    have m2 := Ne.symm hp2
    have m3 := Ne.symm hp3
    clear hW k0 f0 hz hold
    go_region_held3 (fun w' => w'.cell? ⟨w.heap.size, 1, none⟩ = some (.slice (some ⟨pb, 0, none⟩) 1 1) ∧ w'.cell? ⟨w.heap.size, 2, none⟩ = some (.bool ind) ∧ w'.cell? ⟨pb, 0, none⟩ = some (.int .i64 k)) (go_keep)
      (first | (go_at_call 9; refine (appendIndex_one pb k i _ ?_).mono ?_; (simp [*]); rintro e w' ⟨rfl, rfl⟩))
    go_wp2
    go_end0
    rw [HZ.out]
    have := note_world (obj := .iface T (.pointer (some ⟨ob, 0, none⟩))) (ind := ind) (cs := #[.int .i64 k, .int .i64 i]) (v := .slice (some ⟨w.heap.size + 1, 0, none⟩) 2 2) HA1.out HW.out
    rw [HS1.out] at this
    exact ⟨rfl, this.1, this.2.1, HF1.out.trans this.2.2⟩
end Go.Proofs.Ybulkhuy
