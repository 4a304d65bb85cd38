/-
  Walk of LawS0422AAtEnd (function 3).
-/
import Derived.Test.YbulkhsgFmtDesc
import Derived.Test.YbulkhsgFmtSame
namespace Go.Proofs.YbulkhsgFmt
open Go.RowKit Go.Extern.Stop Go.Stop Go.Extern

theorem hid {p : Prop} (h : p) : Hid p := h

theorem method_error (a : Addr) (w : World) : (method 168 44 (.pointer (some a)) "Error").run Ybaf.prog w = .ok (30, .pointer (some a)) w := by kernel_rfl

theorem unexp_any (F : Interp) (pb g n cap pos : Nat) (x y : Int) (z : ByteArray) (w : World) (hF : F.answers w.tape) (hz : z.size ≤ 140737488355328) (hpos : pos < n)
    (h0 : w.cell? ⟨pb, 0, none⟩ = some (.slice (some ⟨g, 0, none⟩) n cap)) (h1 : w.cell? ⟨pb, 1, none⟩ = some (.int .i64 pos))
    (cK : w.cell? ⟨g, pos * 3, none⟩ = some (.int .u8 x)) (cL : w.cell? ⟨g, pos * 3 + 1, none⟩ = some (.int .i32 y)) (cT : w.cell? ⟨g, pos * 3 + 2, none⟩ = some (.string z)) :
    Calls Ybaf.prog 6 #[.pointer (some ⟨pb, 0, none⟩)] w fun e w' => ∃ q, e = .returned (.iface 44 (.pointer (some ⟨q, 0, none⟩))) ∧ (x = 0 → w'.cell? ⟨q, 0, none⟩ = some (.string endText)) ∧ Below w.heap.size w w' := by
  by_cases hx : x = 0
  · subst hx
    refine (unexp_end pb g n cap pos y z w hpos h0 h1 cK cL cT).mono ?_
    rintro e w' ⟨q, rfl, _, hc, hb⟩
    exact ⟨q, rfl, fun _ => hc, hb⟩
  · refine (unexp_other F pb g n cap pos x y z w hF hz hpos (by simpa using hx) h0 h1 cK cL cT).mono ?_
    rintro e w' ⟨⟨q, rfl⟩, hb⟩
    exact ⟨q, rfl, fun h => absurd h hx, hb⟩

set_option maxRecDepth 100000 in
set_option maxHeartbeats 1000000 in
theorem at_big (at' : Int) (ao : Option Addr) (len cap : Nat) (w : World) (hlen : 1024 < len) :
    Calls Ybaf.prog 3 #[.slice ao len cap, .int .u64 at'] w fun e w' => e = .returned (.bool true) ∧ Below w.heap.size w w' := by
  go_enter Ybaf.func3, Ybaf.ntmps3
  go_wp2_with fail
  go_ret
  exact ⟨rfl, Below.refl _ _⟩

set_option maxRecDepth 100000 in
set_option maxHeartbeats 1000000 in
theorem at_pos (F : Interp) (at' : Int) (ao : Option Addr) (len cap : Nat) (K L : Nat → Int) (T : Nat → ByteArray) (w : World) (hF : F.answers w.tape) (hlen : len ≤ 1024) (h0 : 0 < len)
    (hat0 : 0 ≤ at') (hat1 : at' ≤ 18446744073709551615)
    (h : Toks w ao len K L T) (hKb : ∀ k, 0 ≤ K k ∧ K k ≤ 255) (hTb : ∀ k, k < len → (T k).size ≤ 140737488355328) :
    Calls Ybaf.prog 3 #[.slice ao len cap, .int .u64 at'] w fun e w' => e = .returned (.bool true) ∧ Below w.heap.size w w' := by
  have HB := hid (build_any ao len cap K L T w hlen h hKb)
  have HT := hid h
  have HK := hid hKb
  have HTb := hid hTb
  have HF := hid hF
  clear h hKb hTb hF
  obtain ⟨pos, hpos, hplt⟩ : ∃ pos : Nat, at' % (len : Int) = (pos : Int) ∧ pos < len := by
    have a0 : 0 ≤ at' % (len : Int) := Int.emod_nonneg _ (by omega)
    have a1 : at' % (len : Int) < (len : Int) := Int.emod_lt_of_pos _ (by omega)
    exact ⟨(at' % (len : Int)).toNat, by omega, by omega⟩
  go_enter Ybaf.func3, Ybaf.ntmps3
  go_wp2_with fail
  refine HB.out.mono ?_
  rintro e w1 ⟨g1, c1, rfl, hown1, hb1⟩
  have hg1 := hown1.lt g1 rfl
  have R1 := hid (RowAt.of_own hown1)
  have s1 := hb1.size
  have HB2 := hid (build_any ao len cap K L T w1 hlen (HT.out.below (Nat.le_refl _) hb1) HK.out)
  have Hb1 := hid hb1
  clear hown1 HB hb1
  go_wp2_with fail
  refine HB2.out.mono ?_
  rintro e w2 ⟨g2, c2, rfl, hown2, hb2⟩
  have hg2 := hown2.lt g2 rfl
  have r2 := RowAt.of_own hown2
  have s2 := hb2.size
  have r1 := R1.out.below hb2 (by omega)
  have hbel2 : Below w.heap.size w w2 := Hb1.out.trans (hb2.mono s1)
  have hg12 : g1 < w2.heap.size := by omega
  have R1a := hid (r1.alloc hg12 (.cells #[.slice (some ⟨g1, 0, none⟩) len c1, .int .i64 pos] 31))
  have R2a := hid (r2.alloc hg2.2 (.cells #[.slice (some ⟨g1, 0, none⟩) len c1, .int .i64 pos] 31))
  have hbel2a := hbel2.alloc (by omega) (.cells #[.slice (some ⟨g1, 0, none⟩) len c1, .int .i64 pos] 31)
  have Hbel := hid hbel2a
  have HFa : Hid (F.answers (w2.alloc (.cells #[.slice (some ⟨g1, 0, none⟩) len c1, .int .i64 pos] 31)).tape) := by rw [Hid, hbel2a.tape]; exact HF.out
  clear hown2 HB2 hb2 r1 r2 R1 Hb1 hbel2 HF hbel2a
  obtain ⟨cK, cL, cT⟩ := R1a.out pos hplt
  obtain ⟨dK, _, _⟩ := R2a.out pos hplt
  have hz := HTb.out pos hplt
  obtain ⟨x, hx⟩ : ∃ x, x = (K pos).tmod 6 := ⟨_, rfl⟩
  simp only [← hx] at cK dK
  have HX := hid hx
  have hU := hid (unexp_any F w2.heap.size g1 len c1 pos x (L pos) (T pos) _ HFa.out hz hplt (by simp [World.cell?_alloc_at]) (by simp [World.cell?_alloc_at]) cK cL cT)
  have DK := hid dK
  clear cK cL cT hz hx dK
  go_wp2_with fail
  refine hU.out.mono ?_
  rintro e w3 ⟨q, rfl, hq, hb3⟩
  have hp0 : w3.cell? ⟨w2.heap.size, 0, none⟩ = some (.slice (some ⟨g1, 0, none⟩) len c1) := (hb3.cell (p := ⟨w2.heap.size, 0, none⟩) (by simp)).trans (by simp [World.cell?_alloc_at])
  have hp1 : w3.cell? ⟨w2.heap.size, 1, none⟩ = some (.int .i64 pos) := (hb3.cell (p := ⟨w2.heap.size, 1, none⟩) (by simp)).trans (by simp [World.cell?_alloc_at])
  have dK3 : w3.cell? ⟨g2, pos * 3, none⟩ = some (.int .u8 x) := (hb3.cell (p := ⟨g2, pos * 3, none⟩) (by simp; omega)).trans DK.out
  have HS := hid (same_any g1 g2 len c1 c2 (fun k => (K k).tmod 6) L T w3 hlen (R1a.out.below hb3 (by simp; omega)) (R2a.out.below hb3 (by simp; omega)))
  have Hbel3 := hid (Hbel.out.trans (hb3.mono (by simp; omega)))
  have HQ := hid hq
  clear hU DK hb3 Hbel R1a R2a HFa HT HK HTb hq
  have hmeth := method_error
  by_cases hx0 : x = 0
  · subst hx0
    have cq := HQ.out rfl
    go_wp2_with (first | (go_at_call 7; refine HS.out.mono ?_; rintro e w4 ⟨rfl, m, rfl⟩) | (go_at_call 30; refine (error_any q endText _ (by simpa using cq)).mono ?_; rintro e w5 ⟨rfl, rfl⟩))
    go_ret
    exact ⟨rfl, below_drewN Hbel3.out _⟩
  · have hx1 : (x == 0) = false := by simpa using hx0
    clear HQ hx0
    go_wp2_with (go_at_call 7; refine HS.out.mono ?_; rintro e w4 ⟨rfl, m, rfl⟩)
    go_ret
    exact ⟨rfl, below_drewN Hbel3.out _⟩

/-- One token that was appended to an empty row. -/
theorem row_one {w : World} {base g cap : Nat} {a b : Int} {c : ByteArray} (h : w.ownsRow base 28 3 (.slice (some ⟨g, 0, none⟩) (0 + 1) cap) (0 + 1) ([] ++ [.int .u8 a, .int .i32 b, .string c])) : RowAt w g 1 (fun _ => a) (fun _ => b) (fun _ => c) :=
  RowAt.of_own (K := fun _ => a) (L := fun _ => b) (T := fun _ => c) h

set_option maxRecDepth 100000 in
set_option maxHeartbeats 1000000 in
theorem at_zero (at' : Int) (ao : Option Addr) (cap : Nat) (w : World) :
    Calls Ybaf.prog 3 #[.slice ao 0 cap, .int .u64 at'] w fun e w' => e = .returned (.bool true) ∧ Below w.heap.size w w' := by
  obtain ⟨i0, hi, hz0, hz1, hz2⟩ := info_parts Ybaf.info28
  have HB := hid (build_zero ao cap w)
  go_enter Ybaf.func3, Ybaf.ntmps3
  go_wp2_with fail
  refine HB.out.mono ?_
  rintro e w1 ⟨g, c, rfl, hown, hb⟩
  have hs := hb.size
  have hgb := hown.lt g rfl
  go_wp2_with (at_builtin; refine wpList_append_lies _ rfl _ _ _ rfl w.heap.size 28 i0 _ 3 24 Ybaf.underlying24 hi hz0 hz1 hz2 rfl (by omega) (.slice (some ⟨g, 0, none⟩) 0 c) 0 [] rfl (hown.alloc _) ⟨w1.heap.size, 0, none⟩ 1 1 [.int .u8 0, .int .i32 0, .string ByteArray.empty] rfl rfl (World.news_of_block (cs := #[.int .u8 0, .int .i32 0, .string ByteArray.empty]) (t := 28) (fr := (0, 0)) (heap_alloc_new w1 _)) (by simp [Value.oneCell']) (by omega) (by unfold maxLen; omega) (by omega) (by simp; omega) (w1.heap.size + 1) (by simp) ?_; intro g1 c1 w2 hown2 hgrow hat hlt)
  have hbel2 : Below w.heap.size w w2 := (hb.alloc hs _).grown hgrow (by simp; omega) (by simp [Value.ownBlock]; omega)
  have s2 := hbel2.size
  have R1 := hid (row_one hown2)
  have Hbel2 := hid hbel2
  clear hown hb hgrow hat hown2 HB hbel2
  refine (build_zero ao cap w2).mono ?_
  rintro e w3 ⟨g2, c2, rfl, hown3, hb3⟩
  have s3 := hb3.size
  have hg2 := hown3.lt g2 rfl
  go_wp2_with (at_builtin; refine wpList_append_lies _ rfl _ _ _ rfl w2.heap.size 28 i0 _ 3 24 Ybaf.underlying24 hi hz0 hz1 hz2 rfl (by omega) (.slice (some ⟨g2, 0, none⟩) 0 c2) 0 [] rfl (hown3.alloc _) ⟨w3.heap.size, 0, none⟩ 1 1 [.int .u8 0, .int .i32 0, .string ByteArray.empty] rfl rfl (World.news_of_block (cs := #[.int .u8 0, .int .i32 0, .string ByteArray.empty]) (t := 28) (fr := (0, 0)) (heap_alloc_new w3 _)) (by simp [Value.oneCell']) (by omega) (by unfold maxLen; omega) (by omega) (by simp; omega) (w3.heap.size + 1) (by simp) ?_; intro g3 c3 w4 hown4 hgrow hat4 hlt4)
  have hbel4 : Below w2.heap.size w2 w4 := (hb3.alloc s3 _).grown hgrow (by simp; omega) (by simp [Value.ownBlock]; omega)
  have s4 := hbel4.size
  have hbw4 : Below w.heap.size w w4 := Hbel2.out.trans (hbel4.mono (by omega))
  have hg14 : g1 < w4.heap.size := by omega
  have R1a := hid ((R1.out.below hbel4 hlt).alloc hg14 (.cells #[.slice (some ⟨g1, 0, none⟩) 1 c1, .int .i64 0] 31))
  have R2a := hid ((row_one hown4).alloc hlt4 (.cells #[.slice (some ⟨g1, 0, none⟩) 1 c1, .int .i64 0] 31))
  have hbw4a := hbw4.alloc (by omega) (.cells #[.slice (some ⟨g1, 0, none⟩) 1 c1, .int .i64 0] 31)
  have Hbel := hid hbw4a
  clear hown3 hb3 hgrow hat4 hown4 hbel4 Hbel2 R1 hbw4 hbw4a
  obtain ⟨cK, cL, cT⟩ := R1a.out 0 (by omega)
  obtain ⟨dK, _, _⟩ := R2a.out 0 (by omega)
  have hU := hid (unexp_end w4.heap.size g1 1 c1 0 0 ByteArray.empty _ (by omega) (by simp [World.cell?_alloc_at]) (by simp [World.cell?_alloc_at]) cK cL cT)
  have DK := hid dK
  clear cK cL cT dK
  refine hU.out.mono ?_
  rintro e w5 ⟨q, rfl, _, cq, hb5⟩
  have hp0 : w5.cell? ⟨w4.heap.size, 0, none⟩ = some (.slice (some ⟨g1, 0, none⟩) 1 c1) := (hb5.cell (p := ⟨w4.heap.size, 0, none⟩) (by simp)).trans (by simp [World.cell?_alloc_at])
  have hp1 : w5.cell? ⟨w4.heap.size, 1, none⟩ = some (.int .i64 0) := (hb5.cell (p := ⟨w4.heap.size, 1, none⟩) (by simp)).trans (by simp [World.cell?_alloc_at])
  have dK3 : w5.cell? ⟨g3, 0, none⟩ = some (.int .u8 0) := (hb5.cell (p := ⟨g3, 0, none⟩) (by simp; omega)).trans (by simpa using DK.out)
  have HS := hid (same_any g1 g3 1 c1 c3 (fun _ => 0) (fun _ => 0) (fun _ => ByteArray.empty) w5 (by omega) (R1a.out.below hb5 (by simp; omega)) (R2a.out.below hb5 (by simp; omega)))
  have Hbel3 := hid (Hbel.out.trans (hb5.mono (by simp; omega)))
  clear hU DK hb5 Hbel R1a R2a
  have hmeth := method_error
  go_wp2_with (first | (go_at_call 7; refine HS.out.mono ?_; rintro e w4 ⟨rfl, m, rfl⟩) | (go_at_call 30; refine (error_any q endText _ (by simpa using cq)).mono ?_; rintro e w5 ⟨rfl, rfl⟩))
  go_ret
  exact ⟨rfl, below_drewN Hbel3.out _⟩

theorem at_any (F : Interp) (at' : Int) (ao : Option Addr) (len cap : Nat) (K L : Nat → Int) (T : Nat → ByteArray) (w : World) (hF : F.answers w.tape)
    (hat0 : 0 ≤ at') (hat1 : at' ≤ 18446744073709551615)
    (h : Toks w ao len K L T) (hKb : ∀ k, 0 ≤ K k ∧ K k ≤ 255) (hTb : ∀ k, k < len → (T k).size ≤ 140737488355328) :
    Calls Ybaf.prog 3 #[.slice ao len cap, .int .u64 at'] w fun e w' => e = .returned (.bool true) ∧ Below w.heap.size w w' := by
  by_cases hl : len ≤ 1024
  · rcases Nat.eq_zero_or_pos len with rfl | h0
    · exact at_zero at' ao cap w
    · exact at_pos F at' ao len cap K L T w hF hl h0 hat0 hat1 h hKb hTb
  · exact at_big at' ao len cap w (by omega)
end Go.Proofs.YbulkhsgFmt
