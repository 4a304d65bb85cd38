/-
  Opening a slice of ZzS0422ATok that came in.
-/
import Derived.Test.YbulkhsgFmtBuild
import Derived.ProofKit
import Derived.Deep.Slices
import Derived.Deep.Strs
namespace Go.Proofs.YbulkhsgFmt
open Go.ChangeShapes Go.WideShapes Go.ChangeAt Go.RowKit
open Go.Deep

theorem Ybaf.cells40 : Ybaf.prog.cellsOf 40 = 3 := by kernel_rfl
theorem Ybaf.cells5 : Ybaf.prog.cellsOf 5 = 1 := by kernel_rfl
theorem Ybaf.cells21 : Ybaf.prog.cellsOf 21 = 1 := by kernel_rfl
theorem Ybaf.cells9 : Ybaf.prog.cellsOf 9 = 1 := by kernel_rfl

theorem open_tok {H : Type} {enc : TypeId × Value → H} {w : World} {base : Nat} {spare : Nat → Bool} {held : Bool} {fuel : Nat} {cs : List Value} {x : DataW H × List MemPlace}
    (h : DataW.trod enc Ybaf.prog w base spare held fuel 40 cs = some x) : ∃ (a b : Int) (s : ByteArray), cs = [.int .u8 a, .int .i32 b, .string s] ∧ 0 ≤ a ∧ a ≤ 255 ∧ s.size ≤ maxLen := by
  obtain ⟨y0, y1, y2, n, _, hl, h0, h1, h2⟩ := trod_struct3 Ybaf.underlying40 h
  rw [Ybaf.cells40] at hl
  match cs, hl with
  | [c0, c1, c2], _ =>
    simp only [Ybaf.cells5, Ybaf.cells21, Ybaf.cells9] at h0 h1 h2
    obtain ⟨a, e0, _, wa⟩ := DataW.trod_int Ybaf.underlying5 h0
    obtain ⟨b, e1, _, _⟩ := DataW.trod_int Ybaf.underlying21 h1
    obtain ⟨s, e2, _, hs⟩ := DataW.trod_string Ybaf.underlying9 h2
    simp at e0 e1 e2
    subst e0 e1 e2
    have := wa
    simp [Lit.wf, IntKind.min, IntKind.max, IntKind.signed, IntKind.bits] at this
    exact ⟨a, b, s, rfl, by omega, by omega, hs⟩

/-- A slice of ZzS0422ATok that came in. -/
theorem open_toks {H : Type} {enc : TypeId × Value → H} {w : World} {base : Nat} {spare : Nat → Bool} {held : Bool} {fuel : Nat} {ao : Option Addr} {len cap : Nat} {x : DataW H × List MemPlace}
    (h : DataW.trod enc Ybaf.prog w base spare held fuel 22 [.slice ao len cap] = some x) :
    ∃ (K L : Nat → Int) (T : Nat → ByteArray), Toks w ao len K L T ∧ (∀ k, 0 ≤ K k ∧ K k ≤ 255) ∧ (∀ k, k < len → (T k).size ≤ maxLen) := by
  rcases open_slice Ybaf.underlying22 h with ⟨hcs, _⟩ | ⟨a, len', cap', m, n, D, Pl, hcs, _, hl, _, hm, _, hx⟩
  · simp at hcs
    obtain ⟨rfl, rfl, rfl⟩ := hcs
    exact ⟨fun _ => 0, fun _ => 0, fun _ => ByteArray.empty, fun h => absurd h (Nat.lt_irrefl _), fun _ => ⟨Int.le_refl 0, (by decide : (0 : Int) ≤ 255)⟩, fun k hk => absurd hk (Nat.not_lt_zero _)⟩
  · simp at hcs
    obtain ⟨rfl, rfl, rfl⟩ := hcs
    have hle : len ≤ m := by rw [hm]; split <;> omega
    have key : ∀ k, k < len → ∃ r : Int × Int × ByteArray, w.cell? (a.add (k * 3)) = some (.int .u8 r.1) ∧ w.cell? (a.add (k * 3 + 1)) = some (.int .i32 r.2.1) ∧ w.cell? (a.add (k * 3 + 2)) = some (.string r.2.2) ∧
        0 ≤ r.1 ∧ r.1 ≤ 255 ∧ r.2.2.size ≤ maxLen := by
      intro k hk
      obtain ⟨cs', h1, h2⟩ := hx k (by omega)
      rw [Ybaf.cells40] at h1
      obtain ⟨_, _, hc⟩ := World.cells?_some h1
      obtain ⟨p, q, s, rfl, hp, hp', hs⟩ := open_tok h2
      refine ⟨(p, q, s), ?_, ?_, ?_, hp, hp', hs⟩
      · have := hc 0 (by omega); rw [add_add] at this; simpa using this
      · have := hc 1 (by omega); rw [add_add] at this; simpa using this
      · have := hc 2 (by omega); rw [add_add] at this; simpa using this
    obtain ⟨f, hf⟩ := choose_lt (α := Int × Int × ByteArray) key
    refine ⟨fun k => if k < len then (f k).1 else 0, fun k => (f k).2.1, fun k => (f k).2.2, fun h0 => ?_, fun k => ?_, fun k hk => (hf k hk).2.2.2.2.2⟩
    · obtain ⟨b, off, spot⟩ := a
      have hspot : spot = none := by simpa [Addr.add] using World.cell?_spot (hf 0 h0).1
      subst hspot
      refine ⟨b, off, rfl, ?_, fun k hk => ?_⟩
      · simpa [Addr.add] using World.block_lt_of_cell? w _ (hf 0 h0).1
      · obtain ⟨h1, h2, h3, _⟩ := hf k hk
        rw [add_plain] at h1 h2 h3
        simp only [if_pos hk, Nat.add_assoc]
        exact ⟨h1, h2, h3⟩
    · by_cases hk : k < len
      · simp only [if_pos hk]; exact ⟨(hf k hk).2.2.2.1, (hf k hk).2.2.2.2.1⟩
      · simp [hk]
end Go.Proofs.YbulkhsgFmt
