/-
  Walk of mergeEmbedded (13).
-/
import Derived.Test.YbulkhuyEmb
import Derived.Test.YbulkhuyTA
import Derived.Laws.OwnMore
namespace Go.Proofs.Ybulkhuy
open Go.RowKit

theorem hid' {p : Prop} (h : p) : Hid p := h

theorem findE_some {ms : List Emb} {nb p : Nat} (h : ms.findIdx? (fun x => x.nb == nb) = some p) : p < ms.length ∧ (ms.map (·.nb))[p]? = some nb ∧ ∀ q, q < p → (ms.map (·.nb))[q]? ≠ some nb := by
  obtain ⟨hp, h1, h2⟩ := List.findIdx?_eq_some_iff_getElem.1 h
  refine ⟨hp, ?_, fun q hq => ?_⟩
  · simp at h1
    simp [List.getElem?_eq_getElem hp, h1]
  · have hql : q < ms.length := by omega
    have := h2 q hq
    simp at this
    simp [List.getElem?_eq_getElem hql, this]

theorem findE_none {ms : List Emb} {nb : Nat} (h : ms.findIdx? (fun x => x.nb == nb) = none) : nb ∉ ms.map (·.nb) := by
  have := List.findIdx?_eq_none_iff.1 h
  intro hm
  obtain ⟨x, hx, e⟩ := List.mem_map.1 hm
  have := this x hx
  simp [e] at this

theorem Yba.info78 : (Yba.prog.info? 78).map (fun i => (i.zero, i.size, i.bytes)) = some (some (.agg #[.nilIface, .slice none 0 0, .bool false, .bool false]), 4, 48) := by kernel_rfl

/-- What the loop of mergeEmbedded has made: the merged row and the map of its places. -/
structure MR (wr : World) (ms : List Emb) (v : Value) (Mb base : Nat) : Prop where
  own : wr.ownsRow base 78 4 v ms.length (embCells ms)
  map : ∃ ents clk, wr.heap[Mb]? = some (.map ents clk) ∧ ents.toList.map (·.key) = (ms.map (·.nb)).map ptr ∧ ∀ p, p < ms.length → (ents.toList[p]?).map (·.val) = some (.int .i64 p)

theorem Blk.below {W W' : World} {B b : Nat} (h : Blk W b) (hb : Below B W W') (hl : b < B) : Blk W' b := by
  obtain ⟨c, t, h⟩ := h
  exact ⟨c, t, (hb.block b hl).trans h⟩
theorem Blk.lt {W : World} {b : Nat} (h : Blk W b) : b < W.heap.size := by
  obtain ⟨c, t, h⟩ := h
  exact lt_of_block h

theorem own_slice {w : World} {base n : Nat} {e : TypeId} {size : Nat} {v : Value} {xs : List Value} (h : w.ownsRow base e size v n xs) : ∃ ao c, v = .slice ao n c := by
  rcases h.2 with ⟨rfl, rfl⟩ | ⟨g, cap, cur, rfl, _⟩
  · exact ⟨_, _, rfl⟩
  · exact ⟨_, _, rfl⟩

theorem foldE_nb (es : List Emb) : ∀ ms : List Emb, ∀ x ∈ es.foldl addE ms, (∃ y ∈ ms, x.nb = y.nb) ∨ ∃ y ∈ es, x.nb = y.nb := by
  induction es with
  | nil => intro ms x hx; exact .inl ⟨x, hx, rfl⟩
  | cons e es ih =>
    intro ms x hx
    rcases ih (addE ms e) x hx with ⟨y, hy, h⟩ | ⟨y, hy, h⟩
    · unfold addE at hy
      split at hy
      · rename_i p _
        have : y.nb ∈ (markE ms p).map (·.nb) := List.mem_map_of_mem hy
        rw [markE_nb] at this
        obtain ⟨z, hz, e1⟩ := List.mem_map.1 this
        exact .inl ⟨z, hz, h.trans e1.symm⟩
      · rcases List.mem_append.1 hy with hy | hy
        · exact .inl ⟨y, hy, h⟩
        · simp at hy
          exact .inr ⟨e, by simp, by rw [h, hy]⟩
    · exact .inr ⟨y, by simp [hy], h⟩

theorem mergeE_nb (es : List Emb) (x : Emb) (hx : x ∈ mergeE es) : ∃ y ∈ es, x.nb = y.nb := by
  rcases foldE_nb es [] x hx with ⟨y, hy, _⟩ | h
  · cases hy
  · exact h

theorem mr_push {W3 W4 : World} {ms : List Emb} {e : Emb} {ao : Option Addr} {c Mb clk g' cap' : Nat} {ents : Array MapEntry} {o : Obj}
    (ho : W3.ownsRow (Mb + 1) 78 4 (.slice ao ms.length c) ms.length (embCells ms)) (hm : W3.heap[Mb]? = some (.map (ents.push { key := ptr e.nb, val := .int .i64 ms.length, born := clk }) (clk + 1)))
    (hk : ents.toList.map (·.key) = (ms.map (·.nb)).map ptr) (hv : ∀ p, p < ms.length → (ents.toList[p]?).map (·.val) = some (.int .i64 p))
    (hown : W4.ownsRow (Mb + 1) 78 4 (.slice (some ⟨g', 0, none⟩) (ms.length + 1) cap') (ms.length + 1) (embCells ms ++ e.cells)) (hg : (W3.alloc o).grownBy W4 (Value.slice ao ms.length c).ownBlock) :
    MR W4 (ms ++ [e]) (.slice (some ⟨g', 0, none⟩) (ms.length + 1) cap') Mb (Mb + 1) := by
  have hlen : ents.toList.length = ms.length := by
    have := congrArg List.length hk
    simpa using this
  refine ⟨?_, ents.push { key := ptr e.nb, val := .int .i64 ms.length, born := clk }, clk + 1, ?_, ?_, ?_⟩
  · have : embCells (ms ++ [e]) = embCells ms ++ e.cells := by simp [embCells]
    rw [this]
    simpa using hown
  · have hlt := lt_of_block hm
    rw [hg.block Mb (by simp; omega) (fun h => by have := ho.lt Mb h.symm; omega)]
    exact (heap_alloc_old _ _ hlt).trans hm
  · simp only [Array.toList_push, List.map_append, hk, List.map_cons, List.map_nil]
  · intro p hp
    simp only [List.length_append, List.length_cons, List.length_nil] at hp
    rw [Array.toList_push]
    by_cases h : p < ms.length
    · rw [List.getElem?_append_left (by omega)]; exact hv p h
    · have e1 : p = ms.length := by omega
      subst e1
      rw [List.getElem?_append_right (by omega), hlen]
      simp

set_option maxRecDepth 100000 in
set_option maxHeartbeats 1000000 in
theorem merge_any (g0 cap0 : Nat) (es : List Emb) (w : World) (hm : es.length ≤ 512)
    (hc : ∀ j e, es[j]? = some e → w.cell? ⟨g0, j * 4, none⟩ = some (.iface 30 (ptr e.nb)) ∧ w.cell? ⟨g0, j * 4 + 1, none⟩ = some (.slice (some ⟨e.g, 0, none⟩) 1 1) ∧ w.cell? ⟨g0, j * 4 + 2, none⟩ = some (.bool e.ind) ∧ w.cell? ⟨g0, j * 4 + 3, none⟩ = some (.bool e.mult))
    (hN : ∀ e ∈ es, Blk w e.nb) (hg0 : g0 < w.heap.size) :
    Calls Yba.prog 13 #[.slice (some ⟨g0, 0, none⟩) es.length cap0] w fun e w' => ∃ v', e = .returned v' ∧ w'.ownsRow (w.heap.size + 1) 78 4 v' (mergeE es).length (embCells (mergeE es)) ∧ Below w.heap.size w w' := by
  have hmm := @run_makeMap Yba.prog
  obtain ⟨i0, hi, hz0, hz1, hz2⟩ := info_parts Yba.info78
  have HC := hid' hc
  have HN := hid' hN
  clear hc hN
  go_enter Yba.func13, Yba.ntmps13
  go_wp2
  generalize hW1 : w.alloc (.map #[] 0) = W1
  have hmr : MR W1 (mergeE (es.take 0)) (.slice none 0 0) w.heap.size (w.heap.size + 1) := by
    refine ⟨by simpa [mergeE, embCells] using World.ownsRow_nil _ _ _ _, #[], 0, ?_, by simp [mergeE], fun p hp => absurd hp (by simp [mergeE])⟩
    rw [← hW1]; exact heap_alloc_new w _
  have hbl : Below w.heap.size w W1 := by rw [← hW1]; exact (Below.refl _ _).alloc (Nat.le_refl _) _
  have HMR := hid' hmr
  have HBL := hid' hbl
  clear hmr hbl hW1 hmm
  go_loopw [3, 14] (fun v i wr => ∃ (j : Nat) (ao : Option Addr) (c : Nat), j ≤ es.length ∧ i = .int .i64 j ∧ v = .slice ao (mergeE (es.take j)).length c ∧ Hid (MR wr (mergeE (es.take j)) (.slice ao (mergeE (es.take j)).length c) w.heap.size (w.heap.size + 1)) ∧ Hid (Below w.heap.size w wr)) (fun _ i _ => es.length - (intOf i).toNat)
  case atStart => exact ⟨0, none, 0, Nat.zero_le _, rfl, rfl, HMR, HBL⟩
  case round =>
    obtain ⟨j, ao, c, hj, rfl, rfl, HR, HB⟩ := hrel
    by_cases hlt : j < es.length
    · obtain ⟨e, he⟩ : ∃ e, es[j]? = some e := ⟨es[j], List.getElem?_eq_getElem hlt⟩
      obtain ⟨q0, q1, q2, q3⟩ := HC.out j e he
      replace q0 := (HB.out.cell (p := ⟨g0, j * 4, none⟩) hg0).trans q0
      replace q1 := (HB.out.cell (p := ⟨g0, j * 4 + 1, none⟩) hg0).trans q1
      replace q2 := (HB.out.cell (p := ⟨g0, j * 4 + 2, none⟩) hg0).trans q2
      replace q3 := (HB.out.cell (p := ⟨g0, j * 4 + 3, none⟩) hg0).trans q3
      obtain ⟨ms, hms⟩ : ∃ ms, ms = mergeE (es.take j) := ⟨_, rfl⟩
      have hml : ms.length ≤ 512 := by rw [hms]; have := mergeE_length (es.take j); simp at this; omega
      have hnext : mergeE (es.take (j + 1)) = addE ms e := by
        rw [hms, List.take_add_one, he]
        exact mergeE_snoc _ _
      rw [← hms] at HR ⊢
      have HMS := hid' hms
      have HNX := hid' hnext
      have HE := hid' he
      clear hms hnext he HMR HBL
      have hi0' : (0 : Int) ≤ (j : Int) := Int.natCast_nonneg _
      have hi1 : (j : Int) < (es.length : Int) := by omega
      have t1 := ta_30_30
      have hblkW : ∀ b, b ∈ e.nb :: ms.map (·.nb) → Blk w b := by
        intro b hb
        rcases List.mem_cons.1 hb with rfl | hb
        · exact HN.out e (List.mem_of_getElem? HE.out)
        · obtain ⟨x, hx, rfl⟩ := List.mem_map.1 hb
          rw [HMS.out] at hx
          obtain ⟨y, hy, e'⟩ := mergeE_nb _ x hx
          rw [e']
          exact HN.out y (List.mem_of_mem_take hy)
      go_wp2
      have hE := heap_alloc_new wr (.cells #[.iface 30 (ptr e.nb), .slice (some ⟨e.g, 0, none⟩) 1 1, .bool e.ind, .bool e.mult] 78)
      have hb2 : Below wr.heap.size wr (wr.alloc (.cells #[.iface 30 (ptr e.nb), .slice (some ⟨e.g, 0, none⟩) 1 1, .bool e.ind, .bool e.mult] 78)) := (Below.refl _ _).alloc (Nat.le_refl _) _
      have ho2 := HR.out.own.alloc (.cells #[.iface 30 (ptr e.nb), .slice (some ⟨e.g, 0, none⟩) 1 1, .bool e.ind, .bool e.mult] 78)
      have hz2' : (wr.alloc (.cells #[.iface 30 (ptr e.nb), .slice (some ⟨e.g, 0, none⟩) 1 1, .bool e.ind, .bool e.mult] 78)).heap.size = wr.heap.size + 1 := by simp
      generalize wr.alloc (.cells #[.iface 30 (ptr e.nb), .slice (some ⟨e.g, 0, none⟩) 1 1, .bool e.ind, .bool e.mult] 78) = W2 at *
      obtain ⟨ents, clk, hmp, hks, hvs⟩ := HR.out.map
      have hmw : w.heap.size < wr.heap.size := lt_of_block hmp
      have hmp2 := (hb2.block _ hmw).trans hmp
      have hbw2 : Below w.heap.size w W2 := HB.out.trans (hb2.mono (by omega))
      have hblk2 : ∀ b, b ∈ e.nb :: ms.map (·.nb) → Blk W2 b := fun b hb => (hblkW b hb).below hbw2 (hblkW b hb).lt
      obtain ⟨E, hEq⟩ : ∃ E, E = wr.heap.size := ⟨_, rfl⟩
      rw [← hEq] at hE hz2' hmw ⊢
      clear hEq
      clear q0 q1 q2 q3 hb2 hmp
      cases hf : ms.findIdx? (fun x => x.nb == e.nb) with
      | some p =>
        obtain ⟨hp, hK, hq⟩ := findE_some hf
        have hl := look94_some W2 w.heap.size e.nb clk p (.int .i64 p) ents (ms.map (·.nb)) hmp2 hks (fun a ha => hblk2 a (by simp [ha])) (hblk2 _ (by simp)) hK hq (hvs p hp)
        rcases ho2.2 with ⟨_, h0⟩ | ⟨g3, c3, cur, hv, hgb, hgg, _⟩
        · omega
        · simp at hv
          obtain ⟨rfl, rfl⟩ := hv
          have hcell := ho2.cellAt (p * 4 + 3) (by omega)
          obtain ⟨ep, hep⟩ : ∃ ep, ms[p]? = some ep := ⟨ms[p], List.getElem?_eq_getElem hp⟩
          rw [(embCells_get ms p ep hep).2.2.2] at hcell
          have hfr := ho2.frozenAt (p * 4 + 3)
          obtain ⟨hst, hgr⟩ := ho2.stored (p * 4 + 3) (.bool true)
          rw [embCells_mark ms p hp] at hst
          have hmp3 : (W2.setCell ⟨g3, p * 4 + 3, none⟩ (.bool true)).heap[w.heap.size]? = some (.map ents clk) := (heap_setCell_other _ _ _ _ (by simp; omega)).trans hmp2
          have hadd : addE ms e = markE ms p := by simp [addE, hf]
          have hlen : (markE ms p).length = ms.length := by simp [markE]
          have hR3 : MR (W2.setCell ⟨g3, p * 4 + 3, none⟩ (.bool true)) (addE ms e) (.slice (some ⟨g3, 0, none⟩) (addE ms e).length c) w.heap.size (w.heap.size + 1) := by
            rw [hadd, hlen]
            exact ⟨by rw [hlen]; exact hst, ents, clk, hmp3, by rw [markE_nb]; exact hks, fun p' hp' => hvs p' (by rw [hlen] at hp'; exact hp')⟩
          have HR3 := hid' hR3
          have HB3 := hid' ((hbw2.grown hgr (by rw [hz2']; omega) (by simp; omega)) : Below w.heap.size w _)
          have HLN := hid' (show (addE ms e).length = ms.length by rw [hadd, hlen])
          have hi2 : (0 : Int) ≤ (p : Int) := Int.natCast_nonneg _
          have hi3 : (p : Int) < (ms.length : Int) := by omega
          rw [hl]
          clear hl hst hgr hmp3 hR3 ho2 hmp2 hE hadd hlen hK hq hks hvs hblk2 hblkW HR hf
          go_wp2
          go_roundw
          case rel => exact ⟨j + 1, some ⟨g3, 0, none⟩, c, by omega, by go_num, by rw [HNX.out, HLN.out], by rw [HNX.out]; exact HR3, HB3⟩
          case measure => simp [intOf]; omega
      | none =>
        have hnm := findE_none hf
        have hl := look94_none W2 w.heap.size e.nb clk ents (ms.map (·.nb)) hmp2 hks (fun a ha => hblk2 a (by simp [ha])) (hblk2 _ (by simp)) hnm
        have hsn := store_new 94 3 Yba.underlying94 W2 w.heap.size e.nb clk (.int .i64 ms.length) ents (ms.map (·.nb)) hmp2 hks (fun a ha => hblk2 a (by simp [ha])) (hblk2 _ (by simp)) hnm
        have hs3 : (ChangeMaps.setBlock W2 w.heap.size (.map (ents.push { key := ptr e.nb, val := .int .i64 ms.length, born := clk }) (clk + 1))).heap.size = W2.heap.size := by simp [ChangeMaps.setBlock]
        have hm3 : (ChangeMaps.setBlock W2 w.heap.size (.map (ents.push { key := ptr e.nb, val := .int .i64 ms.length, born := clk }) (clk + 1))).heap[w.heap.size]? = some (.map (ents.push { key := ptr e.nb, val := .int .i64 ms.length, born := clk }) (clk + 1)) := by
          simp [ChangeMaps.setBlock, lt_of_block hmp2]
        have hg3 : W2.grownBy (ChangeMaps.setBlock W2 w.heap.size (.map (ents.push { key := ptr e.nb, val := .int .i64 ms.length, born := clk }) (clk + 1))) (some w.heap.size) :=
          ⟨rfl, rfl, rfl, by rw [hs3]; exact Nat.le_refl _, fun k _ hk => Array.getElem?_setIfInBounds_ne (fun h => hk (by rw [h]))⟩
        generalize ChangeMaps.setBlock W2 w.heap.size (.map (ents.push { key := ptr e.nb, val := .int .i64 ms.length, born := clk }) (clk + 1)) = W3 at *
        have hEw : w.heap.size ≠ E := by omega
        have e0 : W3.heap[E]? = _ := (hg3.block E (by omega) (by simp; omega)).trans hE
        have c0 : W3.cell? ⟨E, 0, none⟩ = some (.iface 30 (ptr e.nb)) := by simp [World.cell?, e0]
        have c1 : W3.cell? ⟨E, 1, none⟩ = some (.slice (some ⟨e.g, 0, none⟩) 1 1) := by simp [World.cell?, e0]
        have c2 : W3.cell? ⟨E, 2, none⟩ = some (.bool e.ind) := by simp [World.cell?, e0]
        have c3 : W3.cell? ⟨E, 3, none⟩ = some (.bool e.mult) := by simp [World.cell?, e0]
        have ho3 : W3.ownsRow (w.heap.size + 1) 78 4 (.slice ao ms.length c) ms.length (embCells ms) := ho2.kept hg3 (by
          rcases ho2.2 with ⟨h, _⟩ | ⟨g, cp, cur, h, hgb, _⟩
          · simp at h; left; simp [Value.ownBlock, h.1]
          · simp at h; right; simp [Value.ownBlock, h.1]; omega)
        have hbw3 : Below w.heap.size w W3 := hbw2.grown hg3 (by rw [hz2']; omega) (by simp)
        have HM3 := hid' hm3
        have HB3 := hid' hbw3
        have HO3 := hid' ho3
        have HKS := hid' hks
        have HVS := hid' hvs
        have HFN := hid' hf
        rw [hl]
        have HS3 := hid' (hs3.trans hz2')
        have hs3b : w.heap.size + 1 ≤ W3.heap.size := by omega
        clear hl ho2 hmp2 hE hnm hks hvs hblk2 hblkW HR hf hm3 hbw3 ho3 hg3 e0 hs3 hz2'
        go_wp2_with (at_builtin; refine wpList_append_lies _ rfl _ _ _ rfl (w.heap.size + 1) 78 i0 _ 4 48 Yba.underlying79 hi hz0 hz1 hz2 rfl (by omega) (.slice ao ms.length c) ms.length _ rfl (HO3.out.alloc _) ⟨W3.heap.size, 0, none⟩ 1 1 e.cells rfl rfl (World.news_of_block (cs := #[.iface 30 (ptr e.nb), .slice (some ⟨e.g, 0, none⟩) 1 1, .bool e.ind, .bool e.mult]) (t := 78) (fr := (0, 0)) (heap_alloc_new W3 _)) (by simp [Value.oneCell', Emb.cells]) (by omega) (by unfold maxLen; omega) (by omega) (by simp; omega) (W3.heap.size + 1) (by simp) ?_; intro g' cap' W4 hown1 hgrow hat hlt1)
        have hadd : addE ms e = ms ++ [e] := by simp [addE, HFN.out]
        have hR4 := mr_push HO3.out HM3.out HKS.out HVS.out hown1 hgrow
        have hb4 : Below w.heap.size w W4 := (HB3.out.alloc (by omega) _).grown hgrow (by simp; omega) (fun k hk => by
          have := HO3.out.lt k hk
          omega)
        clear hown1 hgrow hat HO3 HM3
        go_roundw
        case rel => exact ⟨j + 1, some ⟨g', 0, none⟩, cap', by omega, by go_num, by rw [HNX.out, hadd]; simp, by rw [HNX.out, hadd]; simpa [Hid] using hR4, hb4⟩
        case measure => simp [intOf]; omega
    · have e : j = es.length := by omega
      subst e
      rw [List.take_length] at HR ⊢
      go_wp2
      go_ret
      exact ⟨_, rfl, HR.out.own, HB.out⟩
end Go.Proofs.Ybulkhuy
