/-
  Walk of zzs0422asame (7) at two rows of the same tokens.
-/
import Derived.Test.YbulkhsgFmtBuild
import Derived.Deep.QuietTactic
import Derived.BigQuiet
namespace Go.Proofs.YbulkhsgFmt
open Go.RowKit

/-- n tokens lie in block g from its head on. -/
def RowAt (w : World) (g n : Nat) (K L : Nat → Int) (T : Nat → ByteArray) : Prop :=
  ∀ k, k < n → w.cell? ⟨g, k * 3, none⟩ = some (.int .u8 (K k)) ∧ w.cell? ⟨g, k * 3 + 1, none⟩ = some (.int .i32 (L k)) ∧ w.cell? ⟨g, k * 3 + 2, none⟩ = some (.string (T k))

theorem tokCells_length (K L : Nat → Int) (T : Nat → ByteArray) (n : Nat) : (tokCells K L T n).length = n * 3 := by
  induction n with
  | zero => rfl
  | succ n ih => simp [tokCells, ih]; omega

theorem tokCells_get (K L : Nat → Int) (T : Nat → ByteArray) (n k : Nat) (hk : k < n) :
    (tokCells K L T n)[k * 3]? = some (.int .u8 (K k)) ∧ (tokCells K L T n)[k * 3 + 1]? = some (.int .i32 (L k)) ∧ (tokCells K L T n)[k * 3 + 2]? = some (.string (T k)) := by
  induction n with
  | zero => omega
  | succ n ih =>
    have hl := tokCells_length K L T n
    by_cases h : k < n
    · obtain ⟨h1, h2, h3⟩ := ih h
      simp only [tokCells]
      refine ⟨?_, ?_, ?_⟩
      · rw [List.getElem?_append_left (by omega)]; exact h1
      · rw [List.getElem?_append_left (by omega)]; exact h2
      · rw [List.getElem?_append_left (by omega)]; exact h3
    · have e : k = n := by omega
      subst e
      simp only [tokCells]
      refine ⟨?_, ?_, ?_⟩
      · rw [List.getElem?_append_right (by omega)]; simp [hl]
      · rw [List.getElem?_append_right (by omega)]; simp [hl]
      · rw [List.getElem?_append_right (by omega)]; simp [hl]

theorem RowAt.of_own {w : World} {base g n cap : Nat} {K L : Nat → Int} {T : Nat → ByteArray} (h : w.ownsRow base 28 3 (.slice (some ⟨g, 0, none⟩) n cap) n (tokCells K L T n)) : RowAt w g n K L T := by
  have key := h.cells (g := g) rfl
  have hadd : ∀ j, (⟨g, 0, none⟩ : Addr).add j = ⟨g, j, none⟩ := fun j => by unfold Addr.add; split <;> simp_all
  intro k hk
  obtain ⟨h1, h2, h3⟩ := tokCells_get K L T n k hk
  refine ⟨?_, ?_, ?_⟩
  · have := key _ _ h1; rwa [hadd] at this
  · have := key _ _ h2; rwa [hadd] at this
  · have := key _ _ h3; rwa [hadd] at this

theorem RowAt.below {w w' : World} {B g n : Nat} {K L : Nat → Int} {T : Nat → ByteArray} (h : RowAt w g n K L T) (hb : Below B w w') (hg : g < B) : RowAt w' g n K L T := by
  intro k hk
  obtain ⟨h1, h2, h3⟩ := h k hk
  exact ⟨(hb.cell (p := ⟨g, k * 3, none⟩) hg).trans h1, (hb.cell (p := ⟨g, k * 3 + 1, none⟩) hg).trans h2, (hb.cell (p := ⟨g, k * 3 + 2, none⟩) hg).trans h3⟩

theorem RowAt.alloc {w : World} {g n : Nat} {K L : Nat → Int} {T : Nat → ByteArray} (h : RowAt w g n K L T) (hg : g < w.heap.size) (o : Obj) : RowAt (w.alloc o) g n K L T :=
  h.below ((Below.refl w.heap.size w).alloc (Nat.le_refl _) o) hg

set_option maxRecDepth 100000 in
set_option maxHeartbeats 1000000 in
theorem same_any (g1 g2 n c1 c2 : Nat) (K L : Nat → Int) (T : Nat → ByteArray) (w : World) (hn : n ≤ 1024) (h1 : RowAt w g1 n K L T) (h2 : RowAt w g2 n K L T) :
    Calls Ybaf.prog 7 #[.slice (some ⟨g1, 0, none⟩) n c1, .slice (some ⟨g2, 0, none⟩) n c2] w fun e w' => e = .returned (.bool true) ∧ ∃ m, w' = w.drewN m := by
  have H1 : Hid (RowAt w g1 n K L T) := h1
  have H2 : Hid (RowAt w g2 n K L T) := h2
  clear h1 h2
  go_enter Ybaf.func7, Ybaf.ntmps7
  go_wp2
  go_loopw [5] (fun i wr => ∃ k m : Nat, k ≤ n ∧ i = .int .i64 k ∧ wr = w.drewN m) (fun i _ => n - (intOf i).toNat)
  case atStart => exact ⟨0, 0, Nat.zero_le _, rfl, rfl⟩
  case round =>
    obtain ⟨k, m, hk, rfl, rfl⟩ := hrel
    by_cases hlt : k < n
    · obtain ⟨a1, a2, a3⟩ := H1.out k hlt
      obtain ⟨b1, b2, b3⟩ := H2.out k hlt
      have hi0' : (0 : Int) ≤ (k : Int) := Int.natCast_nonneg _
      have hi1 : (k : Int) < (n : Int) := by omega
      go_wp2
      go_quiet (fail)
      go_wp2
      go_roundw
      case rel => exact ⟨k + 1, _, by omega, by go_num, rfl⟩
      case measure => simp [intOf]; omega
    · go_wp2
      go_ret
      exact ⟨rfl, m, rfl⟩
end Go.Proofs.YbulkhsgFmt
