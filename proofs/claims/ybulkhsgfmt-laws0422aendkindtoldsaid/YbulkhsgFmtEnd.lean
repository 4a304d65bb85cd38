/-
  Walk of LawS0422AEndKind (function 4).
-/
import Derived.Test.YbulkhsgFmtUnexp
namespace Go.Proofs.YbulkhsgFmt
open Go.RowKit

theorem hid {p : Prop} (h : p) : Hid p := h

theorem method_error (a : Addr) (w : World) : (method 168 44 (.pointer (some a)) "Error").run Ybaf.prog w = .ok (30, .pointer (some a)) w := by kernel_rfl

theorem tokCells_length (K L : Nat → Int) (T : Nat → ByteArray) (n : Nat) : (tokCells K L T n).length = n * 3 := by
  induction n with
  | zero => rfl
  | succ n ih => simp [tokCells, ih]; omega

/-- The last token that was appended, cell by cell. -/
theorem own_last {w : World} {base g n cap : Nat} {xs : List Value} {a b c : Value} (h : w.ownsRow base 28 3 (.slice (some ⟨g, 0, none⟩) (n + 1) cap) (n + 1) (xs ++ [a, b, c])) (hl : xs.length = n * 3) :
    w.cell? ⟨g, n * 3, none⟩ = some a ∧ w.cell? ⟨g, n * 3 + 1, none⟩ = some b ∧ w.cell? ⟨g, n * 3 + 2, none⟩ = some c := by
  have key := h.cells (g := g) rfl
  have hadd : ∀ j, (⟨g, 0, none⟩ : Addr).add j = ⟨g, j, none⟩ := fun j => by unfold Addr.add; split <;> simp_all
  refine ⟨?_, ?_, ?_⟩
  · have := key (n * 3) a (by rw [List.getElem?_append_right (by omega)]; simp [hl]); rwa [hadd] at this
  · have := key (n * 3 + 1) b (by rw [List.getElem?_append_right (by omega)]; simp [hl]); rwa [hadd] at this
  · have := key (n * 3 + 2) c (by rw [List.getElem?_append_right (by omega)]; simp [hl]); rwa [hadd] at this

set_option maxRecDepth 100000 in
set_option maxHeartbeats 1000000 in
theorem end_big (line : Int) (text : ByteArray) (ao : Option Addr) (len cap : Nat) (w : World) (hlen : 1024 < len) :
    Calls Ybaf.prog 4 #[.int .i32 line, .string text, .slice ao len cap] w fun e w' => e = .returned (.bool true) ∧ Below w.heap.size w w' := by
  go_enter Ybaf.func4, Ybaf.ntmps4
  go_wp2_with fail
  go_ret
  exact ⟨rfl, Below.refl _ _⟩

set_option maxRecDepth 100000 in
set_option maxHeartbeats 1000000 in
theorem end_small (line : Int) (text : ByteArray) (ao : Option Addr) (len cap : Nat) (K L : Nat → Int) (T : Nat → ByteArray) (w : World) (hlen : len ≤ 1024)
    (h : Toks w ao len K L T) (hKb : ∀ k, 0 ≤ K k ∧ K k ≤ 255) :
    Calls Ybaf.prog 4 #[.int .i32 line, .string text, .slice ao len cap] w fun e w' => e = .returned (.bool true) ∧ Below w.heap.size w w' := by
  obtain ⟨i0, hi, hz0, hz1, hz2⟩ := info_parts Ybaf.info28
  have HB := hid (build_any ao len cap K L T w hlen h hKb)
  clear h hKb
  have hl3 := tokCells_length (fun k => (K k).tmod 6) L T len
  have HL3 := hid hl3
  clear hl3
  go_enter Ybaf.func4, Ybaf.ntmps4
  go_wp2_with (first
    | (go_at_call 5; refine HB.out.mono ?_; rintro e w1 ⟨g, c, rfl, hown, hb⟩; have hs := hb.size; have hgb := hown.lt g rfl)
    | (at_builtin; refine wpList_append_lies _ rfl _ _ _ rfl w.heap.size 28 i0 _ 3 24 Ybaf.underlying24 hi hz0 hz1 hz2 rfl (by omega) (.slice (some ⟨g, 0, none⟩) len c) len _ rfl (hown.alloc _) ⟨w1.heap.size, 0, none⟩ 1 1 [.int .u8 0, .int .i32 line, .string text] rfl rfl (World.news_of_block (cs := #[.int .u8 0, .int .i32 line, .string text]) (t := 28) (fr := (0, 0)) (heap_alloc_new w1 _)) (by simp [Value.oneCell']) (by omega) (by unfold maxLen; omega) (by omega) (by simp; omega) (w1.heap.size + 1) (by simp) ?_; intro g' c' w2 hown2 hgrow hat hlt))
  have hbel2 : Below w.heap.size w w2 := (hb.alloc hs _).grown hgrow (by simp; omega) (by simp [Value.ownBlock]; omega)
  obtain ⟨cK, cL, cT⟩ := own_last hown2 HL3.out
  have hs2 := hbel2.size
  clear hgrow hat hown hown2 HB HL3 hb
  have cK' := (World.cell?_alloc_lt w2 (.cells #[.slice (some ⟨g', 0, none⟩) (len + 1) c', .int .i64 len] 31) _ hlt).trans cK
  have cL' := (World.cell?_alloc_lt w2 (.cells #[.slice (some ⟨g', 0, none⟩) (len + 1) c', .int .i64 len] 31) _ hlt).trans cL
  have cT' := (World.cell?_alloc_lt w2 (.cells #[.slice (some ⟨g', 0, none⟩) (len + 1) c', .int .i64 len] 31) _ hlt).trans cT
  refine (unexp_end w2.heap.size g' (len + 1) c' len line text _ (by omega) (by simp [World.cell?_alloc_at]) (by simp [World.cell?_alloc_at]) cK' cL' cT').mono ?_
  rintro e w3 ⟨q, rfl, hq, cq, hb3⟩
  have cp : w3.cell? ⟨w2.heap.size, 1, none⟩ = some (.int .i64 len) := (hb3.cell (p := ⟨w2.heap.size, 1, none⟩) (by simp)).trans (by simp [World.cell?_alloc_at])
  have hbel3 : Below w.heap.size w w3 := (hbel2.alloc hs2 _).trans (hb3.mono (by simp; omega))
  clear hb3 cK cL cT cK' cL' cT'
  have hmeth := method_error
  go_wp2_with (go_at_call 30; refine (error_any q endText _ cq).mono ?_; rintro e w4 ⟨rfl, rfl⟩)
  go_ret
  exact ⟨rfl, hbel3⟩
end Go.Proofs.YbulkhsgFmt
