/-
  Walks of methodIndex (10), methodSet (12) and knownMethods (14) at a complete interface.
-/
import Derived.Test.YbulkhuyObj
namespace Go.Proofs.Ybulkhuy
open Go.RowKit

/-- A slice of n *Func: where each lies, which name it bears. -/
def Funcs (w : World) (ao : Option Addr) (n P : Nat) (B I : Nat → Nat) : Prop :=
  0 < n → ∃ g, ao = some ⟨g, 0, none⟩ ∧ ∀ k, k < n → w.cell? ⟨g, k, none⟩ = some (.pointer (some ⟨B k, 0, none⟩)) ∧ ObjAt w (B k) P (I k) ∧ I k < 4

/-- What methodIndex answers. -/
def Hit (I : Nat → Nat) (s : Nat) (use : Bool) (n : Nat) (r : Int) : Prop :=
  (∃ k, k < n ∧ r = (k : Int) ∧ sameB (I k) s use = true ∧ ∀ j, j < k → sameB (I j) s use = false) ∨ (r = -1 ∧ ∀ j, j < n → sameB (I j) s use = false)

set_option maxRecDepth 100000 in
set_option maxHeartbeats 1000000 in
theorem methodIndex_any (ao : Option Addr) (n cap P s : Nat) (use : Bool) (B I : Nat → Nat) (w : World) (hn : n ≤ 512) (hs : s < 4) (h : Funcs w ao n P B I) :
    Calls Yba.prog 10 #[.slice ao n cap, .pointer (if use then some ⟨P, 0, none⟩ else none), .string (nmB s)] w fun e w' => (∃ r, e = .returned (.int .i64 r) ∧ Hit I s use n r) ∧ w' = w := by
  have HS : ∀ k, k < n → Hid (∃ g, ao = some ⟨g, 0, none⟩ ∧ w.cell? ⟨g, k, none⟩ = some (.pointer (some ⟨B k, 0, none⟩)) ∧
      Calls Yba.prog 11 #[.iface 44 (.pointer (some ⟨B k, 0, none⟩)), .pointer (if use then some ⟨P, 0, none⟩ else none), .string (nmB s)] w fun e w' => e = .returned (.bool (sameB (I k) s use)) ∧ w' = w) := by
    intro k hk
    obtain ⟨g, hg, hc⟩ := h (by omega)
    obtain ⟨h1, h2, h3⟩ := hc k hk
    exact ⟨g, hg, h1, same_any 44 (B k) P (I k) s (.inl rfl) h3 hs use w h2⟩
  clear h hs
  obtain ⟨pk, hpk⟩ : ∃ pk : Option Addr, pk = if use then some ⟨P, 0, none⟩ else none := ⟨_, rfl⟩
  rw [← hpk] at HS ⊢
  have HS := hid HS
  clear hpk
  go_enter Yba.func10, Yba.ntmps10
  go_wp2
  go_loop [11] (fun i => ∃ k : Nat, k ≤ n ∧ i = .int .i64 k ∧ Hid (∀ j, j < k → sameB (I j) s use = false)) (fun i => n - (intOf i).toNat)
  case atStart => exact ⟨0, Nat.zero_le _, rfl, fun j hj => absurd hj (Nat.not_lt_zero _)⟩
  case round =>
    obtain ⟨k, hk, rfl, HN⟩ := hrel
    by_cases hlt : k < n
    · obtain ⟨g, rfl, hc, hcall⟩ := (HS.out k hlt).out
      have HC := hid hcall
      clear hcall
      obtain ⟨r, hr⟩ : ∃ r, r = sameB (I k) s use := ⟨_, rfl⟩
      rw [← hr] at HC
      have HR := hid hr
      clear hr
      have hi0' : (0 : Int) ≤ (k : Int) := Int.natCast_nonneg _
      have hi1 : (k : Int) < (n : Int) := by omega
      go_wp2_with (go_at_call 11; refine HC.out.mono ?_; rintro e w' ⟨rfl, rfl⟩)
      · go_ret
        exact ⟨⟨_, rfl, .inl ⟨k, hlt, rfl, HR.out.symm.trans (by assumption), HN.out⟩⟩, rfl⟩
      · go_round
        case rel => exact ⟨k + 1, by omega, by go_num, fun j hj => by
          rcases Nat.lt_succ_iff_lt_or_eq.1 hj with h | rfl
          · exact HN.out j h
          · exact HR.out.symm.trans (by assumption)⟩
        case measure => simp [intOf]; omega
    · go_wp2
      go_ret
      exact ⟨⟨_, rfl, .inr ⟨rfl, fun j hj => HN.out j (by omega)⟩⟩, rfl⟩

set_option maxRecDepth 100000 in
set_option maxHeartbeats 1000000 in
theorem known_any (q n cap : Nat) (ao : Option Addr) (w : World) (h3 : w.cell? ⟨q, 3, none⟩ = some (.bool true)) (h2 : w.cell? ⟨q, 2, none⟩ = some (.slice ao n cap)) :
    Calls Yba.prog 14 #[.pointer (some ⟨q, 0, none⟩)] w fun e w' => e = .returned (.tuple #[.slice ao n cap, .pointer none]) ∧ Below w.heap.size w w' := by
  have lq := World.block_lt_of_cell? w _ h3
  go_enter Yba.func14, Yba.ntmps14
  go_wp2
  exact bodyPost_ret (v := .tuple #[.slice ao n cap, .pointer none]) (by simp [results, Yba.results14, go_sem]) rfl ⟨rfl, (Below.refl _ _).alloc (Nat.le_refl _) _⟩

set_option maxRecDepth 100000 in
set_option maxHeartbeats 1000000 in
theorem methodSet_any (q n cap : Nat) (ao : Option Addr) (w : World) (h3 : w.cell? ⟨q, 3, none⟩ = some (.bool true)) (h2 : w.cell? ⟨q, 2, none⟩ = some (.slice ao n cap)) :
    Calls Yba.prog 12 #[.pointer (some ⟨q, 0, none⟩)] w fun e w' => e = .returned (.slice ao n cap) ∧ Below w.heap.size w w' := by
  go_enter Yba.func12, Yba.ntmps12
  go_wp2_with (go_at_call 14; refine (known_any q n cap ao _ h3 h2).mono ?_; rintro e w' ⟨rfl, hb⟩)
  go_ret
  exact ⟨rfl, hb⟩
end Go.Proofs.Ybulkhuy
