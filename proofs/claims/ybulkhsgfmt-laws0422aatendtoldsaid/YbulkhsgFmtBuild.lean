/-
  Walk of zzs0422abuild (function 5): it builds a fresh row of tokens.
-/
import Derived.Test.YbulkhsgFmtRows
import Derived.WalkKit
import Derived.WalkSpells
import Derived.WalkLawsBesides
import Derived.Deep.RegionHeld3
import Derived.Deep.AppendLies
namespace Go.Proofs.YbulkhsgFmt
open Go.RowKit

theorem Ybaf.info28 : (Ybaf.prog.info? 28).map (fun i => (i.zero, i.size, i.bytes)) = some (some (.agg #[.int .u8 0, .int .i32 0, .string ByteArray.empty]), 3, 24) := by kernel_rfl

/-- The cells of the first n tokens. -/
def tokCells (K L : Nat → Int) (T : Nat → ByteArray) : Nat → List Value
  | 0 => []
  | n + 1 => tokCells K L T n ++ [.int .u8 (K n), .int .i32 (L n), .string (T n)]

set_option maxRecDepth 100000 in
set_option maxHeartbeats 1000000 in
theorem build_some (b off len cap : Nat) (K L : Nat → Int) (T : Nat → ByteArray) (w : World)
    (hlen : len ≤ 1024) (hb : b < w.heap.size)
    (hK : ∀ k, k < len → w.cell? ⟨b, off + k * 3, none⟩ = some (.int .u8 (K k)))
    (hL : ∀ k, k < len → w.cell? ⟨b, off + k * 3 + 1, none⟩ = some (.int .i32 (L k)))
    (hT : ∀ k, k < len → w.cell? ⟨b, off + k * 3 + 2, none⟩ = some (.string (T k)))
    (hKb : ∀ k, 0 ≤ K k ∧ K k ≤ 255) :
    Calls Ybaf.prog 5 #[.slice (some ⟨b, off, none⟩) len cap] w fun e w' => ∃ g cap', e = .returned (.slice (some ⟨g, 0, none⟩) len cap') ∧
      w'.ownsRow w.heap.size 28 3 (.slice (some ⟨g, 0, none⟩) len cap') len (tokCells (fun k => (K k).tmod 6) L T len) ∧ Below w.heap.size w w' := by
  obtain ⟨i0, hi, hz0, hz1, hz2⟩ := info_parts Ybaf.info28
  go_enter Ybaf.func5, Ybaf.ntmps5
  go_wp2_with (at_make; refine wpList_make_own _ rfl _ _ 24 rfl w.heap.size 28 i0 _ 3 Ybaf.underlying24 hi hz0 hz1 _ _ _ (len + 1) rfl rfl (by omega) (by rw [hz2]; omega) (by unfold maxLen; omega) (Nat.le_refl _) ?_; intro w0 hown0 hgrow0)
  go_loopw [3, 4] (fun v i wr => ∃ k g c : Nat, k ≤ len ∧ i = .int .i64 k ∧ v = .slice (some ⟨g, 0, none⟩) k c ∧
      wr.ownsRow w.heap.size 28 3 (.slice (some ⟨g, 0, none⟩) k c) k (tokCells (fun k => (K k).tmod 6) L T k) ∧ Below w.heap.size w wr)
    (fun _ i _ => len - (intOf i).toNat)
  case atStart => exact ⟨0, _, _, Nat.zero_le _, rfl, rfl, hown0, (Below.refl _ _).grown hgrow0 (Nat.le_refl _) (by simp)⟩
  case round =>
    obtain ⟨k, g, c, hk, rfl, rfl, hown, hbel⟩ := hrel
    by_cases hlt : k < len
    · have cK := (hbel.cell (p := ⟨b, off + k * 3, none⟩) hb).trans (hK k hlt)
      have cL := (hbel.cell (p := ⟨b, off + k * 3 + 1, none⟩) hb).trans (hL k hlt)
      have cT := (hbel.cell (p := ⟨b, off + k * 3 + 2, none⟩) hb).trans (hT k hlt)
      have kb := hKb k
      have hgb := hown.lt g rfl
      have hsz := hbel.size
      have hi0' : (0 : Int) ≤ (k : Int) := Int.natCast_nonneg _
      have hi1 : (k : Int) < (len : Int) := by omega
      clear hK hL hT hKb
      obtain ⟨x, hx⟩ : ∃ x, x = K k := ⟨_, rfl⟩
      obtain ⟨y, hy⟩ : ∃ y, y = L k := ⟨_, rfl⟩
      obtain ⟨z, hz⟩ : ∃ z, z = T k := ⟨_, rfl⟩
      rw [← hx] at cK kb
      rw [← hy] at cL
      rw [← hz] at cT
      have HX : Hid (x = K k ∧ y = L k ∧ z = T k) := ⟨hx, hy, hz⟩
      clear hx hy hz
      obtain ⟨kb0, kb1⟩ := kb
      go_wp2_with fail
      go_region_held3 (fun w' => w'.cell? ⟨b, off + k * 3, none⟩ = some (.int .u8 x) ∧ w'.cell? ⟨b, off + k * 3 + 1, none⟩ = some (.int .i32 y) ∧
          w'.cell? ⟨b, off + k * 3 + 2, none⟩ = some (.string z))
        (first
          | go_keep
          | (go_split_ands
             refine ⟨?_, ?_, ?_⟩
             · (rw [hgrow.cell_far _ (by simp; omega) (by simp [Value.ownBlock]; omega)]; assumption)
             · (rw [hgrow.cell_far _ (by simp; omega) (by simp [Value.ownBlock]; omega)]; assumption)
             · (rw [hgrow.cell_far _ (by simp; omega) (by simp [Value.ownBlock]; omega)]; assumption)))
        ((refine step_append_lies _ (by rfl) _ _ _ (by rfl) w.heap.size 28 i0 _ 3 24 Ybaf.underlying24 hi hz0 hz1 hz2 rfl (by omega) (.slice (some ⟨g, 0, none⟩) k c) k _ (by rfl) ((hown.alloc _).drew)
            ⟨wr.heap.size, 0, none⟩ 1 1 [.int .u8 (x.tmod 6), .int .i32 y, .string z] (by rfl) (by rfl) (World.news_of_block (cs := #[.int .u8 (x.tmod 6), .int .i32 y, .string z]) (t := 28) (fr := (0, 0)) (heap_alloc_new wr _)) (by simp [Value.oneCell'])
            (by omega) (by unfold maxLen; omega) (by omega) (by simp; omega) (wr.heap.size + 1) (by simp) ?_; intro g' cap' w1 hown1 hgrow hat hlt1))
      obtain ⟨rfl, rfl, rfl⟩ := HX.out
      have hbel1 : Below w.heap.size w w1 := ((hbel.alloc hsz _).drew).grown hgrow (by simp; omega) (by simp [Value.ownBlock]; omega)
      clear hgrow hat hown hbel
      go_wp2
      go_roundw
      case rel => exact ⟨k + 1, g', cap', by omega, by go_num, rfl, hown1, hbel1⟩
      case measure => simp [intOf]; omega
    · have e : k = len := by omega
      subst e
      go_wp2
      go_ret
      exact ⟨g, c, rfl, hown, hbel⟩

set_option maxRecDepth 100000 in
set_option maxHeartbeats 1000000 in
theorem build_zero (ao : Option Addr) (cap : Nat) (w : World) :
    Calls Ybaf.prog 5 #[.slice ao 0 cap] w fun e w' => ∃ g cap', e = .returned (.slice (some ⟨g, 0, none⟩) 0 cap') ∧
      w'.ownsRow w.heap.size 28 3 (.slice (some ⟨g, 0, none⟩) 0 cap') 0 [] ∧ Below w.heap.size w w' := by
  obtain ⟨i0, hi, hz0, hz1, hz2⟩ := info_parts Ybaf.info28
  go_enter Ybaf.func5, Ybaf.ntmps5
  go_wp2_with (at_make; refine wpList_make_own _ rfl _ _ 24 rfl w.heap.size 28 i0 _ 3 Ybaf.underlying24 hi hz0 hz1 _ _ _ 1 rfl rfl (by omega) (by rw [hz2]; omega) (by unfold maxLen; omega) (Nat.le_refl _) ?_; intro w0 hown0 hgrow0)
  refine wp_loop_rounds 1 ?_
  rw [rounds_succ]
  go_wp2
  go_ret
  exact ⟨_, _, rfl, hown0, (Below.refl _ _).grown hgrow0 (Nat.le_refl _) (by simp)⟩

/-- What is known of a slice of ZzS0422ATok that came in. -/
def Toks (w : World) (ao : Option Addr) (len : Nat) (K L : Nat → Int) (T : Nat → ByteArray) : Prop :=
  0 < len → ∃ b off, ao = some ⟨b, off, none⟩ ∧ b < w.heap.size ∧
    ∀ k, k < len → w.cell? ⟨b, off + k * 3, none⟩ = some (.int .u8 (K k)) ∧ w.cell? ⟨b, off + k * 3 + 1, none⟩ = some (.int .i32 (L k)) ∧
      w.cell? ⟨b, off + k * 3 + 2, none⟩ = some (.string (T k))

theorem Toks.below {w w' : World} {B : Nat} {ao : Option Addr} {len : Nat} {K L : Nat → Int} {T : Nat → ByteArray} (h : Toks w ao len K L T) (hB : w.heap.size ≤ B) (hb : Below B w w') : Toks w' ao len K L T := by
  intro h0
  obtain ⟨b, off, rfl, hlt, hc⟩ := h h0
  have hs := hb.size
  refine ⟨b, off, rfl, ?_, fun k hk => ?_⟩
  · omega
  · obtain ⟨h1, h2, h3⟩ := hc k hk
    exact ⟨(hb.cell (p := ⟨b, off + k * 3, none⟩) (by show b < B; omega)).trans h1, (hb.cell (p := ⟨b, off + k * 3 + 1, none⟩) (by show b < B; omega)).trans h2, (hb.cell (p := ⟨b, off + k * 3 + 2, none⟩) (by show b < B; omega)).trans h3⟩

theorem build_any (ao : Option Addr) (len cap : Nat) (K L : Nat → Int) (T : Nat → ByteArray) (w : World) (hlen : len ≤ 1024)
    (h : Toks w ao len K L T) (hKb : ∀ k, 0 ≤ K k ∧ K k ≤ 255) :
    Calls Ybaf.prog 5 #[.slice ao len cap] w fun e w' => ∃ g cap', e = .returned (.slice (some ⟨g, 0, none⟩) len cap') ∧
      w'.ownsRow w.heap.size 28 3 (.slice (some ⟨g, 0, none⟩) len cap') len (tokCells (fun k => (K k).tmod 6) L T len) ∧ Below w.heap.size w w' := by
  rcases Nat.eq_zero_or_pos len with rfl | h0
  · exact build_zero ao cap w
  · obtain ⟨b, off, rfl, hlt, hc⟩ := h h0
    exact build_some b off len cap K L T w hlen hlt (fun k hk => (hc k hk).1) (fun k hk => (hc k hk).2.1) (fun k hk => (hc k hk).2.2) hKb
end Go.Proofs.YbulkhsgFmt
