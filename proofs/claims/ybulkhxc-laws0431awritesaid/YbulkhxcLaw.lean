/-
  Walk of LawS0431AWrite (function 3).
-/
import Derived.Test.YbulkhxcWo
import Derived.Laws.CopyOwn
import Derived.Deep.OwnRows
import Derived.LaidEql
import Derived.LaidEqlPtr
namespace Go.Proofs.Ybulkhxc
open Go.RowKit

/-- n bytes that came in. -/
def Bytes (w : World) (ao : Option Addr) (n : Nat) (Z : Nat → Int) : Prop :=
  0 < n → ∃ b off, ao = some ⟨b, off, none⟩ ∧ b < w.heap.size ∧ ∀ k, k < n → w.cell? ⟨b, off + k, none⟩ = some (.int .u8 (Z k))

def cellsZ (Z : Nat → Int) (n : Nat) : List Value := (List.range n).map fun j => .int .u8 (Z j)

theorem cellsZ_len (Z : Nat → Int) (n : Nat) : (cellsZ Z n).length = n := by simp [cellsZ]
theorem cellsZ_get (Z : Nat → Int) (n j : Nat) (v : Value) (h : (cellsZ Z n)[j]? = some v) : j < n ∧ v = .int .u8 (Z j) := by
  unfold cellsZ at h
  rw [List.getElem?_map, Option.map_eq_some_iff] at h
  obtain ⟨a, h1, rfl⟩ := h
  obtain ⟨h2, rfl⟩ := List.getElem?_eq_some_iff.1 h1
  simp at h2 ⊢
  exact h2
theorem cellsZ_one (Z : Nat → Int) (n : Nat) : ∀ v ∈ cellsZ Z n, v.oneCell' = true := by
  intro v hv
  simp [cellsZ] at hv
  obtain ⟨a, _, rfl⟩ := hv
  rfl

theorem Yba.comp34 : (Yba.prog.info? 34).map (fun i => i.comparable) = some true := by kernel_rfl
theorem Yba.info36 : (Yba.prog.info? 36).map (fun i => i.size) = some 1 := by kernel_rfl
theorem Yba.size5 : (Yba.prog.info? 5).map (·.size) = some 1 := by kernel_rfl
theorem eql25_same (a : Addr) (w : World) : (binOp .neq 25 (.iface 34 (.pointer (some a))) (.iface 34 (.pointer (some a)))).run Yba.prog w = .ok (.bool false) w := by
  obtain ⟨i, hi, hc⟩ := Option.map_eq_some_iff.1 Yba.comp34
  obtain ⟨j, hj, _⟩ := Option.map_eq_some_iff.1 Yba.info36
  simp only [binOp]
  simp [Op.equal, Op.maxDepth, run_equalIn_iface_ptr_same w 9998 a Yba.underlying25 Yba.underlying34 hi hc hj]

theorem src_ok {w : World} {ao : Option Addr} {n : Nat} {Z : Nat → Int} (h : Bytes w ao n Z) (A B : Obj) :
    0 < n → ∃ ad, ao = some ad ∧ ∀ j v, (cellsZ Z n)[j]? = some v → ((w.alloc A).alloc B).cell? (ad.add j) = some v := by
  intro h0
  obtain ⟨b, off, rfl, hb, hc⟩ := h h0
  refine ⟨_, rfl, fun j v hv => ?_⟩
  obtain ⟨h1, rfl⟩ := cellsZ_get Z n j v hv
  have e : (⟨b, off, none⟩ : Addr).add j = ⟨b, off + j, none⟩ := by unfold Addr.add; split <;> simp_all
  rw [e, World.cell?_alloc_past _ _ _ (by simp; omega), World.cell?_alloc_past _ _ _ (by exact hb)]
  exact hc j h1

/-- The copy: the whole row is laid anew. -/
theorem copy_all (w : World) (g n sCap : Nat) (sp : Option Addr) (cur : Array Value) (cs : List Value) (hg : w.heap[g]? = some (.cells cur 5 (0, 0))) (hc : cur.size = n) (hn : cs.length = n)
    (hpos : 0 < n → ∃ ad, sp = some ad ∧ ∀ j v, cs[j]? = some v → w.cell? (ad.add j) = some v) (h1 : ∀ v ∈ cs, v.oneCell' = true) :
    ∃ w2, (Builtin.copy_ #[22, 22] 3 #[.slice (some ⟨g, 0, none⟩) n n, .slice sp n sCap]).run Yba.prog w = .ok (.int .i64 n) w2 ∧ w2.heap[g]? = some (.cells cs.toArray 5 (0, 0)) ∧ Fr (· = g) w w2 := by
  by_cases h0 : n = 0
  · subst h0
    obtain rfl : cs = [] := List.eq_nil_of_length_eq_zero hn
    obtain rfl : cur = #[] := Array.eq_empty_of_size_eq_zero hc
    exact ⟨w, run_copy_none w 22 22 3 5 _ _ _ _ _ _ Yba.underlying22 Yba.size5 rfl, hg, Fr.refl _ _⟩
  · obtain ⟨ad, rfl, hsrc⟩ := hpos (by omega)
    have hr := run_copy_row (P := Yba.prog) w 22 22 3 5 g 0 n n ad n sCap cur 5 cs Yba.underlying22 Yba.size5 hg (by simp [hn]) hsrc (by omega) h1
    have e1 : cur.toList.take 0 ++ cs ++ cur.toList.drop (0 + cs.length) = cs := by
      have : cur.toList.drop (0 + cs.length) = [] := List.drop_eq_nil_of_le (by simp; omega)
      rw [this]; simp
    rw [e1, hn] at hr
    exact ⟨_, hr, by simpa using setRow_heap w g _ _ 5 _ hg, ⟨rfl, rfl, rfl, by simp [World.setRow], fun k _ hk => setRow_other w g k _ hk⟩⟩

theorem new_any (s : ByteArray) (w : World) : Calls Yba.prog 4 #[.string s] w fun e w' => e = .returned (.iface 34 (.pointer (some ⟨w.heap.size, 0, none⟩))) ∧ w' = w.alloc (.cells #[.string s] 36) := by
  go_enter Yba.func4, Yba.ntmps4
  go_wp2
  go_ret
  exact ⟨rfl, rfl⟩

theorem call5 (w2 : World) (g n k m : Nat) (x : Int) (fail : Bool) (zs : List Value) (s : ByteArray) (hg : w2.heap[g]? = some (.cells zs.toArray 5 (0, 0))) (hb : w2.heap[g + 1]? = some (.cells #[.slice (some ⟨g, 0, none⟩) n n] 22 (0, 0)))
    (hz : zs.length = n) (h1 : ∀ v ∈ zs, v.oneCell' = true) (hn : n ≤ 1024) (hk : k ≤ 65535) (hm : m = if n < k then n else k) :
    Calls Yba.prog 5 #[.iface 27 (.pointer (some ⟨w2.heap.size + 1, 0, none⟩)), .pointer (some ⟨g + 1, 0, none⟩), .pointer (some ⟨w2.heap.size + 1 + 1, 0, none⟩)]
      (((w2.alloc (.cells #[.string s] 36)).alloc (.cells #[.int .i64 k, .bool fail, .int .i64 0, .int .i64 0, .slice none 0 0, .iface 34 (.pointer (some ⟨w2.heap.size, 0, none⟩))] 29)).alloc (.cells #[.int .i64 x] 2))
      fun e w' => ∃ vo cp, e = .returned (if fail then .iface 34 (.pointer (some ⟨w2.heap.size, 0, none⟩)) else .nilIface) ∧ Hid (w'.ownsRow (w2.heap.size + 3) 5 1 (.slice vo m cp) m (zs.take m)) ∧
        w'.cell? ⟨w2.heap.size + 1, 2, none⟩ = some (.int .i64 1) ∧ w'.cell? ⟨w2.heap.size + 1, 3, none⟩ = some (.int .i64 n) ∧ w'.cell? ⟨w2.heap.size + 1, 4, none⟩ = some (.slice vo m cp) ∧
        w'.cell? ⟨g + 1, 0, none⟩ = some (.slice (some ⟨g, 0, none⟩) 0 n) ∧ w'.cell? ⟨w2.heap.size + 1 + 1, 0, none⟩ = some (.int .i64 (wrap64 (x + m))) ∧ Hid (Below g w2 w') := by
  have lg := lt_heap hg
  have lb := lt_heap hb
  have hq : ((((w2.alloc (.cells #[.string s] 36)).alloc (.cells #[.int .i64 k, .bool fail, .int .i64 0, .int .i64 0, .slice none 0 0, .iface 34 (.pointer (some ⟨w2.heap.size, 0, none⟩))] 29)).alloc (.cells #[.int .i64 x] 2))).heap[w2.heap.size + 1]? = some (.cells #[.int .i64 k, .bool fail, .int .i64 0, .int .i64 0, .slice none 0 0, .iface 34 (.pointer (some ⟨w2.heap.size, 0, none⟩))] 29 (0, 0)) := by
    rw [heap_alloc_old _ _ (by simp)]
    have := heap_alloc_new (w2.alloc (.cells #[.string s] 36)) (.cells #[.int .i64 k, .bool fail, .int .i64 0, .int .i64 0, .slice none 0 0, .iface 34 (.pointer (some ⟨w2.heap.size, 0, none⟩))] 29)
    simpa using this
  have hs : ((((w2.alloc (.cells #[.string s] 36)).alloc (.cells #[.int .i64 k, .bool fail, .int .i64 0, .int .i64 0, .slice none 0 0, .iface 34 (.pointer (some ⟨w2.heap.size, 0, none⟩))] 29)).alloc (.cells #[.int .i64 x] 2))).heap[w2.heap.size + 1 + 1]? = some (.cells #[.int .i64 x] 2 (0, 0)) := by
    have := heap_alloc_new ((w2.alloc (.cells #[.string s] 36)).alloc (.cells #[.int .i64 k, .bool fail, .int .i64 0, .int .i64 0, .slice none 0 0, .iface 34 (.pointer (some ⟨w2.heap.size, 0, none⟩))] 29)) (.cells #[.int .i64 x] 2)
    simpa using this
  have hold : ∀ b, b < w2.heap.size → ((((w2.alloc (.cells #[.string s] 36)).alloc (.cells #[.int .i64 k, .bool fail, .int .i64 0, .int .i64 0, .slice none 0 0, .iface 34 (.pointer (some ⟨w2.heap.size, 0, none⟩))] 29)).alloc (.cells #[.int .i64 x] 2))).heap[b]? = w2.heap[b]? := fun b h => by
    rw [heap_alloc_old _ _ (by simp; omega), heap_alloc_old _ _ (by simp; omega), heap_alloc_old _ _ h]
  have hbel : Below g w2 (((w2.alloc (.cells #[.string s] 36)).alloc (.cells #[.int .i64 k, .bool fail, .int .i64 0, .int .i64 0, .slice none 0 0, .iface 34 (.pointer (some ⟨w2.heap.size, 0, none⟩))] 29)).alloc (.cells #[.int .i64 x] 2)) :=
    (((Below.refl g w2).alloc (by omega) _).alloc (by simp; omega) _).alloc (by simp; omega) _
  have hsz : (((w2.alloc (.cells #[.string s] 36)).alloc (.cells #[.int .i64 k, .bool fail, .int .i64 0, .int .i64 0, .slice none 0 0, .iface 34 (.pointer (some ⟨w2.heap.size, 0, none⟩))] 29)).alloc (.cells #[.int .i64 x] 2)).heap.size = w2.heap.size + 3 := by simp
  refine (writeOut_any (w2.heap.size + 1) g n k w2.heap.size m (g + 1) (w2.heap.size + 1 + 1) x fail zs _ ⟨hq, (hold g lg).trans hg, hz, h1, hn, hk, by omega, hm⟩ ((hold _ lb).trans hb) hs ⟨by omega, by omega, by omega, by omega, by omega⟩).mono ?_
  rintro e w' ⟨r, v, rfl, h2, h3, h4, h5, h6, h7⟩
  subst h2
  obtain ⟨vo, cp, rfl⟩ : ∃ vo cp, v = .slice vo m cp := by
    rcases Joins.ownsRow_forms h4 with ⟨rfl, rfl⟩ | ⟨g, cap, rfl⟩
    · exact ⟨_, _, rfl⟩
    · exact ⟨_, _, rfl⟩
  refine ⟨vo, cp, rfl, ?_, ?_, ?_, ?_, ?_, ?_, ?_⟩
  · rw [hsz] at h4; exact h4
  · rw [cell_of_row w' _ 2 _ _ _ h3]; rfl
  · rw [cell_of_row w' _ 3 _ _ _ h3]; rfl
  · rw [cell_of_row w' _ 4 _ _ _ h3]; rfl
  · rw [cell_of_row w' _ 0 _ _ _ h5]; rfl
  · rw [cell_of_row w' _ 0 _ _ _ h6]; rfl
  · exact hbel.trans (h7.to_below (by rw [hsz]; omega) (fun b hb => by omega))

theorem got_at {w : World} {base m n cp j : Nat} {vo : Option Addr} {Z : Nat → Int} (h : w.ownsRow base 5 1 (.slice vo m cp) m ((cellsZ Z n).take m)) (hj : j < m) (hmn : m ≤ n) : ∃ g, vo = some ⟨g, 0, none⟩ ∧ w.cell? ⟨g, j, none⟩ = some (.int .u8 (Z j)) := by
  rcases h.2 with ⟨_, h0⟩ | ⟨g, cap, cur, h1, h2, h3, h4, h5, h6, h7⟩
  · omega
  · cases h1
    refine ⟨g, rfl, ?_⟩
    rw [cell_of_row w g j _ _ _ h3]
    have e : (cur.toList.take (m * 1))[j]? = cur.toList[j]? := by rw [List.getElem?_take, if_pos (by omega)]
    have e2 : cur[j]? = cur.toList[j]? := by simp
    rw [e2, ← e, h7, List.getElem?_take, if_pos hj]
    unfold cellsZ
    rw [List.getElem?_map, List.getElem?_range (by omega)]; rfl

def LawOut (w : World) (e : Ending) (w' : World) : Prop := e = .returned (.bool true) ∧ Below w.heap.size w w'

set_option maxRecDepth 100000 in
theorem law_big (ao : Option Addr) (n cap : Nat) (k : Int) (fail : Bool) (x : Int) (w : World) (hn : 1024 < n) :
    Calls Yba.prog 3 #[.slice ao n cap, .int .u16 k, .bool fail, .int .i64 x] w (LawOut w) := by
  go_enter Yba.func3, Yba.ntmps3
  go_wp2_with fail
  go_ret
  exact ⟨rfl, Below.refl _ _⟩

set_option maxRecDepth 100000 in
set_option maxHeartbeats 1000000 in
theorem law_any (ao : Option Addr) (n cap k m : Nat) (fail : Bool) (x : Int) (Z : Nat → Int) (w : World) (hn : n ≤ 1024) (hk : k ≤ 65535) (hm : m = if n < k then n else k) (h : Bytes w ao n Z) :
    Calls Yba.prog 3 #[.slice ao n cap, .int .u16 k, .bool fail, .int .i64 x] w (LawOut w) := by
  have hmk := run_make_row' (P := Yba.prog) 22 5 (.int .u8 0) 1 Yba.underlying22 Yba.info5 rfl .i64 .i64 n (by omega) (by omega)
  have HB := hid h
  have HM := hid hm
  clear h hm
  have HSRC := fun A B => hid (src_ok HB.out A B)
  have HMR : Hid (((w.alloc (.cells (madeCells #[.int .u8 0] n) 5)).alloc (.cells #[.slice (some ⟨w.heap.size, 0, none⟩) n n] 22)).heap[w.heap.size]? = some (.cells (madeCells #[.int .u8 0] n) 5 (0, 0))) := by
    show _ = _
    rw [heap_alloc_old _ _ (by simp), heap_alloc_new]
  have HBV : Hid (((w.alloc (.cells (madeCells #[.int .u8 0] n) 5)).alloc (.cells #[.slice (some ⟨w.heap.size, 0, none⟩) n n] 22)).heap[w.heap.size + 1]? = some (.cells #[.slice (some ⟨w.heap.size, 0, none⟩) n n] 22 (0, 0))) := by
    show _ = _
    have := heap_alloc_new (w.alloc (.cells (madeCells #[.int .u8 0] n) 5)) (.cells #[.slice (some ⟨w.heap.size, 0, none⟩) n n] 22)
    simpa using this
  have HMS : Hid ((madeCells #[.int .u8 0] n : Array Value).size = n) := by show _ = _; simp [madeCells]
  obtain ⟨w2, hcp, hg2, hf2⟩ := copy_all _ w.heap.size n cap ao _ (cellsZ Z n) HMR.out HMS.out (cellsZ_len Z n) (HSRC _ _).out (cellsZ_one Z n)
  have hb2 := (hf2.block (w.heap.size + 1) (by simp) (by omega)).trans HBV.out
  have hl2 := hf2.size
  have hbel : Below w.heap.size w w2 := by
    have := (((Below.refl w.heap.size w).alloc (Nat.le_refl _) (.cells (madeCells #[.int .u8 0] n) 5)).alloc (by simp) (.cells #[.slice (some ⟨w.heap.size, 0, none⟩) n n] 22)).trans (hf2.to_below (B := w.heap.size) (by simp; omega) (fun b hb => by omega))
    exact this
  simp at hl2
  have c2 := cell_of_row w2 (w.heap.size + 1) 0 _ _ _ hb2
  simp at c2
  have HG2 := hid hg2
  have HB2 := hid hb2
  have HL2 := hid hl2
  have HBEL := hid hbel
  clear hg2 hb2 hl2 hf2 hbel HMR HBV HMS HSRC
  have heq := eql25_same
  by_cases hlt : n < k
  · have hm := HM.out
    rw [if_pos hlt] at hm
    subst hm
    have hlt' : (m : Int) < (k : Int) := by omega
    cases fail
    · go_enter Yba.func3, Yba.ntmps3
      go_wp2_with (first | (go_at_call 4; refine (new_any _ _).mono ?_; rintro e w' ⟨rfl, rfl⟩) | (go_at_call 5; refine (call5 w2 w.heap.size m k m x false (cellsZ Z m) _ HG2.out HB2.out (cellsZ_len Z m) (cellsZ_one Z m) hn hk HM.out).mono ?_; rintro e w5 ⟨vo, cp, rfl, HO, d2, d3, d4, d5, d6, HB5⟩))
      have HBW := hid (HBEL.out.trans HB5.out)
      go_loopw [16] (fun i wr => ∃ j : Nat, j ≤ m ∧ i = .int .i64 j ∧ Hid (∃ d, wr = w5.drewN d)) (fun i _ => m - (intOf i).toNat)
      case atStart => exact ⟨0, Nat.zero_le _, rfl, ⟨0, rfl⟩⟩
      case round =>
        obtain ⟨j, hj, rfl, HD⟩ := hrel
        obtain ⟨dd, rfl⟩ := HD.out
        by_cases hjm : j < m
        · obtain ⟨b, off, rfl, hb, hc⟩ := HB.out (by omega)
          have cz : w5.cell? ⟨b, off + j, none⟩ = some (.int .u8 (Z j)) := (HBW.out.cell (p := ⟨b, off + j, none⟩) hb).trans (hc j (by omega))
          obtain ⟨vg, rfl, hvg⟩ := got_at HO.out hjm (by omega)
          have cg : w5.cell? ⟨vg, j, none⟩ = some (.int .u8 (Z j)) := hvg
          have c4 : w5.cell? ⟨w2.heap.size + 1, 4, none⟩ = some (.slice (some ⟨vg, 0, none⟩) m cp) := d4
          have hi0' : (0 : Int) ≤ (j : Int) := Int.natCast_nonneg _
          have hi1 : (j : Int) < (m : Int) := by omega
          have hi2 : (j : Int) < (m : Int) := by omega
          clear hc hvg
          go_wp2
          go_quiet (fail)
          go_wp2
          go_roundw
          case rel => exact ⟨j + 1, by omega, by go_num, ⟨_, rfl⟩⟩
          case measure => simp [intOf]; omega
        · have e : j = m := by omega
          subst e
          go_wp2
          go_ret
          exact ⟨rfl, below_drewN HBW.out _⟩
    · go_enter Yba.func3, Yba.ntmps3
      go_wp2_with (first | (go_at_call 4; refine (new_any _ _).mono ?_; rintro e w' ⟨rfl, rfl⟩) | (go_at_call 5; refine (call5 w2 w.heap.size m k m x true (cellsZ Z m) _ HG2.out HB2.out (cellsZ_len Z m) (cellsZ_one Z m) hn hk HM.out).mono ?_; rintro e w5 ⟨vo, cp, rfl, HO, d2, d3, d4, d5, d6, HB5⟩))
      have HBW := hid (HBEL.out.trans HB5.out)
      go_loopw [16] (fun i wr => ∃ j : Nat, j ≤ m ∧ i = .int .i64 j ∧ Hid (∃ d, wr = w5.drewN d)) (fun i _ => m - (intOf i).toNat)
      case atStart => exact ⟨0, Nat.zero_le _, rfl, ⟨0, rfl⟩⟩
      case round =>
        obtain ⟨j, hj, rfl, HD⟩ := hrel
        obtain ⟨dd, rfl⟩ := HD.out
        by_cases hjm : j < m
        · obtain ⟨b, off, rfl, hb, hc⟩ := HB.out (by omega)
          have cz : w5.cell? ⟨b, off + j, none⟩ = some (.int .u8 (Z j)) := (HBW.out.cell (p := ⟨b, off + j, none⟩) hb).trans (hc j (by omega))
          obtain ⟨vg, rfl, hvg⟩ := got_at HO.out hjm (by omega)
          have cg : w5.cell? ⟨vg, j, none⟩ = some (.int .u8 (Z j)) := hvg
          have c4 : w5.cell? ⟨w2.heap.size + 1, 4, none⟩ = some (.slice (some ⟨vg, 0, none⟩) m cp) := d4
          have hi0' : (0 : Int) ≤ (j : Int) := Int.natCast_nonneg _
          have hi1 : (j : Int) < (m : Int) := by omega
          have hi2 : (j : Int) < (m : Int) := by omega
          clear hc hvg
          go_wp2
          go_quiet (fail)
          go_wp2
          go_roundw
          case rel => exact ⟨j + 1, by omega, by go_num, ⟨_, rfl⟩⟩
          case measure => simp [intOf]; omega
        · have e : j = m := by omega
          subst e
          go_wp2
          go_ret
          exact ⟨rfl, below_drewN HBW.out _⟩
  · have hm := HM.out
    rw [if_neg hlt] at hm
    subst hm
    have hlt' : ¬ (n : Int) < (m : Int) := by omega
    cases fail
    · go_enter Yba.func3, Yba.ntmps3
      go_wp2_with (first | (go_at_call 4; refine (new_any _ _).mono ?_; rintro e w' ⟨rfl, rfl⟩) | (go_at_call 5; refine (call5 w2 w.heap.size n m m x false (cellsZ Z n) _ HG2.out HB2.out (cellsZ_len Z n) (cellsZ_one Z n) hn hk HM.out).mono ?_; rintro e w5 ⟨vo, cp, rfl, HO, d2, d3, d4, d5, d6, HB5⟩))
      have HBW := hid (HBEL.out.trans HB5.out)
      go_loopw [16] (fun i wr => ∃ j : Nat, j ≤ m ∧ i = .int .i64 j ∧ Hid (∃ d, wr = w5.drewN d)) (fun i _ => m - (intOf i).toNat)
      case atStart => exact ⟨0, Nat.zero_le _, rfl, ⟨0, rfl⟩⟩
      case round =>
        obtain ⟨j, hj, rfl, HD⟩ := hrel
        obtain ⟨dd, rfl⟩ := HD.out
        by_cases hjm : j < m
        · obtain ⟨b, off, rfl, hb, hc⟩ := HB.out (by omega)
          have cz : w5.cell? ⟨b, off + j, none⟩ = some (.int .u8 (Z j)) := (HBW.out.cell (p := ⟨b, off + j, none⟩) hb).trans (hc j (by omega))
          obtain ⟨vg, rfl, hvg⟩ := got_at HO.out hjm (by omega)
          have cg : w5.cell? ⟨vg, j, none⟩ = some (.int .u8 (Z j)) := hvg
          have c4 : w5.cell? ⟨w2.heap.size + 1, 4, none⟩ = some (.slice (some ⟨vg, 0, none⟩) m cp) := d4
          have hi0' : (0 : Int) ≤ (j : Int) := Int.natCast_nonneg _
          have hi1 : (j : Int) < (m : Int) := by omega
          have hi2 : (j : Int) < (n : Int) := by omega
          clear hc hvg
          go_wp2
          go_quiet (fail)
          go_wp2
          go_roundw
          case rel => exact ⟨j + 1, by omega, by go_num, ⟨_, rfl⟩⟩
          case measure => simp [intOf]; omega
        · have e : j = m := by omega
          subst e
          go_wp2
          go_ret
          exact ⟨rfl, below_drewN HBW.out _⟩
    · go_enter Yba.func3, Yba.ntmps3
      go_wp2_with (first | (go_at_call 4; refine (new_any _ _).mono ?_; rintro e w' ⟨rfl, rfl⟩) | (go_at_call 5; refine (call5 w2 w.heap.size n m m x true (cellsZ Z n) _ HG2.out HB2.out (cellsZ_len Z n) (cellsZ_one Z n) hn hk HM.out).mono ?_; rintro e w5 ⟨vo, cp, rfl, HO, d2, d3, d4, d5, d6, HB5⟩))
      have HBW := hid (HBEL.out.trans HB5.out)
      go_loopw [16] (fun i wr => ∃ j : Nat, j ≤ m ∧ i = .int .i64 j ∧ Hid (∃ d, wr = w5.drewN d)) (fun i _ => m - (intOf i).toNat)
      case atStart => exact ⟨0, Nat.zero_le _, rfl, ⟨0, rfl⟩⟩
      case round =>
        obtain ⟨j, hj, rfl, HD⟩ := hrel
        obtain ⟨dd, rfl⟩ := HD.out
        by_cases hjm : j < m
        · obtain ⟨b, off, rfl, hb, hc⟩ := HB.out (by omega)
          have cz : w5.cell? ⟨b, off + j, none⟩ = some (.int .u8 (Z j)) := (HBW.out.cell (p := ⟨b, off + j, none⟩) hb).trans (hc j (by omega))
          obtain ⟨vg, rfl, hvg⟩ := got_at HO.out hjm (by omega)
          have cg : w5.cell? ⟨vg, j, none⟩ = some (.int .u8 (Z j)) := hvg
          have c4 : w5.cell? ⟨w2.heap.size + 1, 4, none⟩ = some (.slice (some ⟨vg, 0, none⟩) m cp) := d4
          have hi0' : (0 : Int) ≤ (j : Int) := Int.natCast_nonneg _
          have hi1 : (j : Int) < (m : Int) := by omega
          have hi2 : (j : Int) < (n : Int) := by omega
          clear hc hvg
          go_wp2
          go_quiet (fail)
          go_wp2
          go_roundw
          case rel => exact ⟨j + 1, by omega, by go_num, ⟨_, rfl⟩⟩
          case measure => simp [intOf]; omega
        · have e : j = m := by omega
          subst e
          go_wp2
          go_ret
          exact ⟨rfl, below_drewN HBW.out _⟩
end Go.Proofs.Ybulkhxc
