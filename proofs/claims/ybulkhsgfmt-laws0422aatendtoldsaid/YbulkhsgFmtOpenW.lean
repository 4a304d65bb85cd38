/-
  Opening a slice of ZzS0422ATok that came in: its texts weigh in.
-/
import Derived.Test.YbulkhsgFmtOpen
import Derived.SizedLaws
namespace Go.Proofs.YbulkhsgFmt
open Go.ChangeShapes Go.WideShapes Go.ChangeAt Go.RowKit
open Go.Deep

theorem open_tokW {H : Type} {enc : TypeId × Value → H} {w : World} {base : Nat} {spare : Nat → Bool} {held : Bool} {fuel : Nat} {cs : List Value} {x : DataW H × List MemPlace}
    (h : DataW.trod enc Ybaf.prog w base spare held fuel 40 cs = some x) : ∃ (a b : Int) (s : ByteArray), cs = [.int .u8 a, .int .i32 b, .string s] ∧ 0 ≤ a ∧ a ≤ 255 ∧ s.size ∈ x.1.weights Ybaf.prog 40 := by
  obtain ⟨y0, y1, y2, n, rfl, hl, h0, h1, h2⟩ := trod_struct3 Ybaf.underlying40 h
  rw [Ybaf.cells40] at hl
  match cs, hl with
  | [c0, c1, c2], _ =>
    simp only [Ybaf.cells5, Ybaf.cells21, Ybaf.cells9] at h0 h1 h2
    obtain ⟨a, e0, _, wa⟩ := DataW.trod_int Ybaf.underlying5 h0
    obtain ⟨b, e1, _, _⟩ := DataW.trod_int Ybaf.underlying21 h1
    obtain ⟨s, e2, rfl, hs⟩ := DataW.trod_string Ybaf.underlying9 h2
    simp at e0 e1 e2
    subst e0 e1 e2
    have := wa
    simp [Lit.wf, IntKind.min, IntKind.max, IntKind.signed, IntKind.bits] at this
    refine ⟨a, b, s, rfl, by omega, by omega, ?_⟩
    simp [DataW.weights, Ybaf.underlying40, DataW.weightsEach]

theorem mem_weightsAll {H : Type} {P : Program} {e : TypeId} {ds : List (DataW H)} {d : DataW H} {n : Nat} (hd : d ∈ ds) (hn : n ∈ d.weights P e) : n ∈ DataW.weightsAll P e ds := by
  induction ds with
  | nil => cases hd
  | cons x r ih =>
    simp only [DataW.weightsAll, List.mem_append]
    rcases List.mem_cons.1 hd with rfl | h
    · exact .inl hn
    · exact .inr (ih h)

/-- A slice of ZzS0422ATok that came in. -/
theorem open_toksW {H : Type} {enc : TypeId × Value → H} {w : World} {base : Nat} {spare : Nat → Bool} {held : Bool} {fuel : Nat} {ao : Option Addr} {len cap : Nat} {x : DataW H × List MemPlace}
    (h : DataW.trod enc Ybaf.prog w base spare held fuel 22 [.slice ao len cap] = some x) :
    ∃ (K L : Nat → Int) (T : Nat → ByteArray), Toks w ao len K L T ∧ (∀ k, 0 ≤ K k ∧ K k ≤ 255) ∧ (∀ k, k < len → (T k).size ∈ x.1.weights Ybaf.prog 22) := by
  rcases open_slice Ybaf.underlying22 h with ⟨hcs, _⟩ | ⟨a, len', cap', m, n, D, Pl, hcs, _, hl, _, hm, rfl, hx⟩
  · simp at hcs
    obtain ⟨rfl, rfl, rfl⟩ := hcs
    exact ⟨fun _ => 0, fun _ => 0, fun _ => ByteArray.empty, fun h => absurd h (Nat.lt_irrefl _), fun _ => ⟨Int.le_refl 0, (by decide : (0 : Int) ≤ 255)⟩, fun k hk => absurd hk (Nat.not_lt_zero _)⟩
  · simp at hcs
    obtain ⟨rfl, rfl, rfl⟩ := hcs
    have hle : len ≤ m := by rw [hm]; split <;> omega
    have key : ∀ k, k < len → ∃ r : Int × Int × ByteArray, w.cell? (a.add (k * 3)) = some (.int .u8 r.1) ∧ w.cell? (a.add (k * 3 + 1)) = some (.int .i32 r.2.1) ∧ w.cell? (a.add (k * 3 + 2)) = some (.string r.2.2) ∧
        0 ≤ r.1 ∧ r.1 ≤ 255 ∧ r.2.2.size ∈ (D k).weights Ybaf.prog 40 := by
      intro k hk
      obtain ⟨cs', h1, h2⟩ := hx k (by omega)
      rw [Ybaf.cells40] at h1
      obtain ⟨_, _, hc⟩ := World.cells?_some h1
      obtain ⟨p, q, s, rfl, hp, hp', hs⟩ := open_tokW h2
      refine ⟨(p, q, s), ?_, ?_, ?_, hp, hp', hs⟩
      · have := hc 0 (by omega); rw [add_add] at this; simpa using this
      · have := hc 1 (by omega); rw [add_add] at this; simpa using this
      · have := hc 2 (by omega); rw [add_add] at this; simpa using this
    obtain ⟨f, hf⟩ := choose_lt (α := Int × Int × ByteArray) key
    refine ⟨fun k => if k < len then (f k).1 else 0, fun k => (f k).2.1, fun k => (f k).2.2, fun h0 => ?_, fun k => ?_, fun k hk => ?_⟩
    · obtain ⟨b, off, spot⟩ := a
      have hspot : spot = none := by simpa [Addr.add] using World.cell?_spot (hf 0 h0).1
      subst hspot
      refine ⟨b, off, rfl, ?_, fun k hk => ?_⟩
      · simpa [Addr.add] using World.block_lt_of_cell? w _ (hf 0 h0).1
      · obtain ⟨h1, h2, h3, _⟩ := hf k hk
        rw [add_plain] at h1 h2 h3
        simp only [if_pos hk, Nat.add_assoc]
        exact ⟨h1, h2, h3⟩
    · by_cases hk : k < len
      · simp only [if_pos hk]; exact ⟨(hf k hk).2.2.2.1, (hf k hk).2.2.2.2.1⟩
      · simp [hk]
    · simp only [DataW.weights, Ybaf.underlying22]
      refine List.mem_cons_of_mem _ (List.mem_append_left _ (mem_weightsAll (d := D k) ?_ (hf k hk).2.2.2.2.2))
      exact List.mem_map.2 ⟨k, List.mem_range.2 hk, rfl⟩
end Go.Proofs.YbulkhsgFmt
