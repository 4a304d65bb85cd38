/-
  Walk of (*zzs0431aw).Write (function 21).
-/
import Derived.Test.YbulkhxcFr
import Derived.Deep.RegionLaw
import Derived.Deep.AppendLies
import Derived.Lib.SmallJoins
import Derived.BigQuiet
namespace Go.Proofs.Ybulkhxc
open Go.RowKit

theorem step_append_nil {P : Program} {ops : Array Oper} {o : Oper} {a : Act} {w : World} {K : Act → World → Prop} {Q : Exit → Act → World → Prop} {E : Prop}
    (hg : o.guard = none) (s x : Operand) (t : TypeId) (hop : o.op = Op.call { callee := Callee.builtin Builtin.append, args := #[s, x], argTypes := #[t, t] })
    (e : TypeId) (i : TypeInfo) (z : Value) (size bytes : Nat) (h1 : P.underlying t = some (.slice e)) (h2 : P.info? e = some i) (h3 : i.zero = some z) (h4 : i.size = size) (h5 : i.bytes = bytes) (h6 : z.cells.size = size) (h7 : 0 < size)
    (hs : a.eval s = .slice none 0 0)
    (ad : Addr) (m c : Nat) (news : List Value) (hx : a.eval x = .slice (some ad) m c) (hn : news.length = m * size) (hc : ∀ j u, news[j]? = some u → w.cell? (ad.add j) = some u) (h1c : ∀ u ∈ news, u.oneCell' = true)
    (b1 : 0 + m ≤ maxLen) (b2 : (0 + m) * bytes ≤ 140737488355328)
    (hK : ∀ v' w', w'.ownsRow w.heap.size e size v' (0 + m) ([] ++ news) → w.grownBy w' none → K (a.put o.dst v') w') :
    if Region.wanted o (yielded ops a.tmps) = true then Oper.wp P o a w K Q else E := by
  have hw : Region.wanted o (yielded ops a.tmps) = true := by simp [Region.wanted, hg]
  rw [if_pos hw]
  obtain ⟨v', w', hrun, r1, r2, _⟩ := run_append_own (P := P) w w.heap.size t o.type e i z size bytes h1 h2 h3 h4 h5 h6 h7 (.slice none 0 0) 0 [] (World.ownsRow_nil w _ e size) ad m c news hn hc h1c b1 b2 (Nat.le_refl _)
  unfold Oper.wp
  simp [execOp, hop, resolve, invoke, builtin, hs, hx, hrun, Result.andThen]
  exact hK v' w' r1 r2

theorem Yba.info5 : (Yba.prog.info? 5).map (fun i => (i.zero, i.size, i.bytes)) = some (some (.int .u8 0), 1, 1) := by kernel_rfl

theorem owns_slice {w : World} {base size m : Nat} {e : TypeId} {v : Value} {xs : List Value} (h : w.ownsRow base e size v (0 + m) ([] ++ xs)) : ∃ ao c, v = .slice ao m c ∧ w.ownsRow base e size (.slice ao m c) m xs := by
  rw [Nat.zero_add, List.nil_append] at h
  rcases Joins.ownsRow_forms h with ⟨rfl, rfl⟩ | ⟨g, cap, rfl⟩
  · exact ⟨_, _, rfl, h⟩
  · exact ⟨_, _, rfl, h⟩

theorem lt_heap {w : World} {b : Nat} {o : Obj} (h : w.heap[b]? = some o) : b < w.heap.size := by
  rcases Nat.lt_or_ge b w.heap.size with hh | hh
  · exact hh
  · rw [Array.getElem?_eq_none hh] at h; cases h

theorem grown_block {w w2 : World} {q : Nat} {o : Obj} (hg : w.drew.grownBy w2 none) (h : w.heap[q]? = some o) : w2.heap[q]? = some o :=
  (hg.block q (lt_heap h) (by simp)).trans h

/-- What Write leaves. -/
def WrOut (q n k eb m : Nat) (fail : Bool) (zs : List Value) (w : World) (e : Ending) (w' : World) : Prop :=
  e = .returned (.tuple #[.int .i64 m, if fail then .iface 34 (.pointer (some ⟨eb, 0, none⟩)) else .nilIface]) ∧
      ∃ v, w'.heap[q]? = some (.cells #[.int .i64 k, .bool fail, .int .i64 1, .int .i64 n, v, .iface 34 (.pointer (some ⟨eb, 0, none⟩))] 29 (0, 0)) ∧
        w'.ownsRow w.heap.size 5 1 v m (zs.take m) ∧ Fr (· = q) w w'

theorem wr_close {q n k eb m : Nat} {fail : Bool} {zs : List Value} {w w1 w2 : World} {v : Value} (hf1 : Fr (· = q) w w1) (hs1 : w1.heap.size = w.heap.size) (hgr : w1.drew.grownBy w2 none)
    (hq2 : w2.heap[q]? = some (.cells #[.int .i64 k, .bool fail, .int .i64 1, .int .i64 n, .slice none 0 0, .iface 34 (.pointer (some ⟨eb, 0, none⟩))] 29 (0, 0)))
    (hown : w2.ownsRow w1.drew.heap.size 5 1 v m (zs.take m)) (hq : q < w.heap.size) {r : Value} (hr : r = if fail then .iface 34 (.pointer (some ⟨eb, 0, none⟩)) else .nilIface) (j : Nat) :
    WrOut q n k eb m fail zs w (.returned (.tuple #[.int .i64 m, r])) ((w2.setCell ⟨q, 4, none⟩ v).drewN j) := by
  subst hr
  refine ⟨rfl, v, ?_, ?_, ?_⟩
  · show (w2.setCell ⟨q, 4, none⟩ v).heap[q]? = _
    rw [heap_setCell_same _ q 4 _ _ _ hq2]; rfl
  · have hown' : w2.ownsRow w.heap.size 5 1 v m (zs.take m) := by
      have e : w1.drew.heap.size = w.heap.size := hs1
      rw [e] at hown; exact hown
    refine ⟨hown'.1, ?_⟩
    rcases hown'.2 with h | ⟨g, cap, cur, h1, h2, h3, h4⟩
    · exact .inl h
    · refine .inr ⟨g, cap, cur, h1, h2, ?_, h4⟩
      show (w2.setCell ⟨q, 4, none⟩ v).heap[g]? = _
      rw [heap_setCell_other _ _ _ _ (by show g ≠ q; omega)]; exact h3
  · have h2 : Fr (· = q) w w2 := hf1.drew.grown hgr (by intro g h; cases h)
    exact (h2.setCell (p := ⟨q, 4, none⟩) (fun _ => rfl) v).drewN j

set_option maxRecDepth 100000 in
set_option maxHeartbeats 1000000 in
theorem write_any (q g n k eb m : Nat) (fail : Bool) (zs : List Value) (w : World)
    (hq : w.heap[q]? = some (.cells #[.int .i64 k, .bool fail, .int .i64 0, .int .i64 0, .slice none 0 0, .iface 34 (.pointer (some ⟨eb, 0, none⟩))] 29 (0, 0)))
    (hg : w.heap[g]? = some (.cells zs.toArray 5 (0, 0))) (hz : zs.length = n) (h1 : ∀ v ∈ zs, v.oneCell' = true) (hn : n ≤ 1024) (hk : k ≤ 65535) (hne : g ≠ q) (hm : m = if n < k then n else k) :
    Calls Yba.prog 21 #[.pointer (some ⟨q, 0, none⟩), .slice (some ⟨g, 0, none⟩) n n] w (WrOut q n k eb m fail zs w) := by
  have c0 := cell_of_row w q 0 _ _ _ hq
  have c1 := cell_of_row w q 1 _ _ _ hq
  have c2 := cell_of_row w q 2 _ _ _ hq
  have c3 := cell_of_row w q 3 _ _ _ hq
  have c4 := cell_of_row w q 4 _ _ _ hq
  have c5 := cell_of_row w q 5 _ _ _ hq
  have f2 := frozen_of_row w q 2 _ _ hq
  have f3 := frozen_of_row w q 3 _ _ hq
  have f4 := frozen_of_row w q 4 _ _ hq
  simp at c0 c1 c2 c3 c4 c5
  have HQ := hid hq
  have HG := hid hg
  have HZ := hid hz
  have H1 := hid h1
  clear hq hg hz h1
  by_cases hlt : n < k
  · rw [if_pos hlt] at hm
    subst hm
    have hlt' : (m : Int) < (k : Int) := by omega
    go_enter Yba.func21, Yba.ntmps21
    go_wp2_with fail
    have hq1 : ((w.setCell ⟨q, 2, none⟩ (.int .i64 1)).setCell ⟨q, 3, none⟩ (.int .i64 (m : Nat))).heap[q]? = some (.cells #[.int .i64 (k : Nat), .bool fail, .int .i64 1, .int .i64 (m : Nat), .slice none 0 0, .iface 34 (.pointer (some ⟨eb, 0, none⟩))] 29 (0, 0)) := by
      rw [heap_setCell_same _ q 3 _ _ _ (heap_setCell_same _ q 2 _ _ _ HQ.out)]; rfl
    have hg1 : ((w.setCell ⟨q, 2, none⟩ (.int .i64 1)).setCell ⟨q, 3, none⟩ (.int .i64 (m : Nat))).heap[g]? = some (.cells zs.toArray 5 (0, 0)) := by
      rw [heap_setCell_other _ _ _ _ (by simpa using hne), heap_setCell_other _ _ _ _ (by simpa using hne)]; exact HG.out
    have hf1 : Fr (· = q) w ((w.setCell ⟨q, 2, none⟩ (.int .i64 1)).setCell ⟨q, 3, none⟩ (.int .i64 (m : Nat))) := ((Fr.refl (· = q) w).setCell (p := ⟨q, 2, none⟩) (fun _ => rfl) _).setCell (p := ⟨q, 3, none⟩) (fun _ => rfl) _
    have hs1 : ((w.setCell ⟨q, 2, none⟩ (.int .i64 1)).setCell ⟨q, 3, none⟩ (.int .i64 (m : Nat))).heap.size = w.heap.size := by simp
    generalize ((w.setCell ⟨q, 2, none⟩ (.int .i64 1)).setCell ⟨q, 3, none⟩ (.int .i64 (m : Nat))) = w1 at *
    clear c0 c1 c2 c3 c4 c5 f2 f3 f4
    have c1 := cell_of_row w1 q 1 _ _ _ hq1
    have c4 := cell_of_row w1 q 4 _ _ _ hq1
    have c5 := cell_of_row w1 q 5 _ _ _ hq1
    have f4 := frozen_of_row w1 q 4 _ _ hq1
    simp at c1 c4 c5
    have hnw : ∀ j u, (zs.take m)[j]? = some u → w1.cell? ((⟨g, 0, none⟩ : Addr).add j) = some u := fun j u hu => by
      refine World.news_of_block hg1 j u ?_
      rw [List.getElem?_take] at hu
      split at hu
      · exact hu
      · cases hu
    have hq1' := hid hq1
    have hg1' := hid hg1
    have HF1 := hid hf1
    have HS1 := hid hs1
    have HNW := hid hnw
    have HL : Hid ((zs.take m).length = m * 1) := by
      rw [List.length_take, HZ.out]
      show min m m = m * 1
      omega
    have H1C : Hid (∀ u ∈ zs.take m, u.oneCell' = true) := fun u hu => H1.out u (List.mem_of_mem_take hu)
    clear hq1 hg1 hf1 hs1 hnw H1
    obtain ⟨i0, hi0, hiz⟩ := Option.map_eq_some_iff.1 Yba.info5
    have HI := hid hi0
    have HIZ := hid hiz
    clear hi0 hiz
    have HZ1 : Hid (i0.zero = some (.int .u8 0)) := by have := HIZ.out; simp at this; exact this.1
    have HZ2 : Hid (i0.size = 1) := by have := HIZ.out; simp at this; exact this.2.1
    have HZ3 : Hid (i0.bytes = 1) := by have := HIZ.out; simp at this; exact this.2.2
    have HB1 : Hid (0 + m ≤ maxLen) := by show 0 + m ≤ maxLen; simp [maxLen]; omega
    have HB2 : Hid ((0 + m) * 1 ≤ 140737488355328) := by show (0 + m) * 1 ≤ 140737488355328; omega
    go_region_law (refine step_append_nil rfl (.tmp 33) (.tmp 36) 22 rfl 5 i0 (.int .u8 0) 1 1 Yba.underlying22 HI.out HZ1.out HZ2.out HZ3.out rfl Nat.one_pos rfl ⟨g, 0, none⟩ m _ (zs.take m) rfl HL.out HNW.out H1C.out HB1.out HB2.out ?_; intro v' w2 hown hgr; obtain ⟨ao, cp, rfl, hown2⟩ := owns_slice hown; have hq2 := grown_block hgr hq1'.out; have c24 := cell_of_row w2 q 4 _ _ _ hq2; have c21 := cell_of_row w2 q 1 _ _ _ hq2; have c25 := cell_of_row w2 q 5 _ _ _ hq2; have f24 := frozen_of_row w2 q 4 _ _ hq2; simp at c24 c21 c25; have HQ2 := hid hq2; have HO2 := hid hown2; have HGR := hid hgr; clear hown hgr hq2 hown2)
    have HLT := hid (lt_heap HQ.out)
    go_wp2
    · go_quiet (fail)
      go_wp2
      go_ret2
      exact wr_close HF1.out HS1.out HGR.out HQ2.out HO2.out HLT.out (by rw [if_pos (show fail = true by assumption)]; rfl) _
    · go_ret2
      exact wr_close HF1.out HS1.out HGR.out HQ2.out HO2.out HLT.out (by rw [if_neg (show ¬ fail = true by simp_all)]; rfl) 0
  · rw [if_neg hlt] at hm
    subst hm
    have hlt' : ¬ (n : Int) < (m : Int) := by omega
    go_enter Yba.func21, Yba.ntmps21
    go_wp2_with fail
    have hq1 : ((w.setCell ⟨q, 2, none⟩ (.int .i64 1)).setCell ⟨q, 3, none⟩ (.int .i64 (n : Nat))).heap[q]? = some (.cells #[.int .i64 (m : Nat), .bool fail, .int .i64 1, .int .i64 (n : Nat), .slice none 0 0, .iface 34 (.pointer (some ⟨eb, 0, none⟩))] 29 (0, 0)) := by
      rw [heap_setCell_same _ q 3 _ _ _ (heap_setCell_same _ q 2 _ _ _ HQ.out)]; rfl
    have hg1 : ((w.setCell ⟨q, 2, none⟩ (.int .i64 1)).setCell ⟨q, 3, none⟩ (.int .i64 (n : Nat))).heap[g]? = some (.cells zs.toArray 5 (0, 0)) := by
      rw [heap_setCell_other _ _ _ _ (by simpa using hne), heap_setCell_other _ _ _ _ (by simpa using hne)]; exact HG.out
    have hf1 : Fr (· = q) w ((w.setCell ⟨q, 2, none⟩ (.int .i64 1)).setCell ⟨q, 3, none⟩ (.int .i64 (n : Nat))) := ((Fr.refl (· = q) w).setCell (p := ⟨q, 2, none⟩) (fun _ => rfl) _).setCell (p := ⟨q, 3, none⟩) (fun _ => rfl) _
    have hs1 : ((w.setCell ⟨q, 2, none⟩ (.int .i64 1)).setCell ⟨q, 3, none⟩ (.int .i64 (n : Nat))).heap.size = w.heap.size := by simp
    generalize ((w.setCell ⟨q, 2, none⟩ (.int .i64 1)).setCell ⟨q, 3, none⟩ (.int .i64 (n : Nat))) = w1 at *
    clear c0 c1 c2 c3 c4 c5 f2 f3 f4
    have c1 := cell_of_row w1 q 1 _ _ _ hq1
    have c4 := cell_of_row w1 q 4 _ _ _ hq1
    have c5 := cell_of_row w1 q 5 _ _ _ hq1
    have f4 := frozen_of_row w1 q 4 _ _ hq1
    simp at c1 c4 c5
    have hnw : ∀ j u, (zs.take m)[j]? = some u → w1.cell? ((⟨g, 0, none⟩ : Addr).add j) = some u := fun j u hu => by
      refine World.news_of_block hg1 j u ?_
      rw [List.getElem?_take] at hu
      split at hu
      · exact hu
      · cases hu
    have hq1' := hid hq1
    have hg1' := hid hg1
    have HF1 := hid hf1
    have HS1 := hid hs1
    have HNW := hid hnw
    have HL : Hid ((zs.take m).length = m * 1) := by
      rw [List.length_take, HZ.out]
      show min m n = m * 1
      omega
    have H1C : Hid (∀ u ∈ zs.take m, u.oneCell' = true) := fun u hu => H1.out u (List.mem_of_mem_take hu)
    clear hq1 hg1 hf1 hs1 hnw H1
    obtain ⟨i0, hi0, hiz⟩ := Option.map_eq_some_iff.1 Yba.info5
    have HI := hid hi0
    have HIZ := hid hiz
    clear hi0 hiz
    have HZ1 : Hid (i0.zero = some (.int .u8 0)) := by have := HIZ.out; simp at this; exact this.1
    have HZ2 : Hid (i0.size = 1) := by have := HIZ.out; simp at this; exact this.2.1
    have HZ3 : Hid (i0.bytes = 1) := by have := HIZ.out; simp at this; exact this.2.2
    have HB1 : Hid (0 + m ≤ maxLen) := by show 0 + m ≤ maxLen; simp [maxLen]; omega
    have HB2 : Hid ((0 + m) * 1 ≤ 140737488355328) := by show (0 + m) * 1 ≤ 140737488355328; omega
    go_region_law (refine step_append_nil rfl (.tmp 33) (.tmp 36) 22 rfl 5 i0 (.int .u8 0) 1 1 Yba.underlying22 HI.out HZ1.out HZ2.out HZ3.out rfl Nat.one_pos rfl ⟨g, 0, none⟩ m _ (zs.take m) rfl HL.out HNW.out H1C.out HB1.out HB2.out ?_; intro v' w2 hown hgr; obtain ⟨ao, cp, rfl, hown2⟩ := owns_slice hown; have hq2 := grown_block hgr hq1'.out; have c24 := cell_of_row w2 q 4 _ _ _ hq2; have c21 := cell_of_row w2 q 1 _ _ _ hq2; have c25 := cell_of_row w2 q 5 _ _ _ hq2; have f24 := frozen_of_row w2 q 4 _ _ hq2; simp at c24 c21 c25; have HQ2 := hid hq2; have HO2 := hid hown2; have HGR := hid hgr; clear hown hgr hq2 hown2)
    have HLT := hid (lt_heap HQ.out)
    go_wp2
    · go_quiet (fail)
      go_wp2
      go_ret2
      exact wr_close HF1.out HS1.out HGR.out HQ2.out HO2.out HLT.out (by rw [if_pos (show fail = true by assumption)]; rfl) _
    · go_ret2
      exact wr_close HF1.out HS1.out HGR.out HQ2.out HO2.out HLT.out (by rw [if_neg (show ¬ fail = true by simp_all)]; rfl) 0
end Go.Proofs.Ybulkhxc
