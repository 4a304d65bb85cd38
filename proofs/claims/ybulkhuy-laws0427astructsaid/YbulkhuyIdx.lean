/-
  Walks of names (5), appendIndex (9), eq (7).
-/
import Derived.Test.YbulkhuyRows
import Derived.WalkKit
import Derived.WalkSpells
import Derived.WalkLawsBesides
import Derived.Deep.RegionHeld3
import Derived.Deep.QuietTactic
import Derived.BigQuiet
namespace Go.Proofs.Ybulkhuy
open Go.RowKit

set_option maxRecDepth 100000 in
set_option maxHeartbeats 400000 in
theorem names_any (w : World) :
    Calls Yba.prog 5 #[] w fun e w' => e = .returned (.agg #[.string ⟨#[65]⟩, .string ⟨#[66]⟩, .string ⟨#[99]⟩, .string ⟨#[100]⟩]) ∧ Below w.heap.size w w' := by
  go_enter Yba.func5, Yba.ntmps5
  go_wp2
  exact bodyPost_ret (v := .agg #[.string ⟨#[65]⟩, .string ⟨#[66]⟩, .string ⟨#[99]⟩, .string ⟨#[100]⟩]) (by simp [results, Yba.results5, go_sem]) rfl ⟨rfl, (Below.refl _ _).alloc (Nat.le_refl _) _⟩

theorem Yba.size3 : (Yba.prog.info? 3).map (·.size) = some 1 := by kernel_rfl

theorem setRow_alloc (w : World) (c c' : Array Value) (t : TypeId) : (w.alloc (.cells c t)).setRow w.heap.size c' = w.alloc (.cells c' t) := by
  show ({ w with heap := (w.heap.push (.cells c t)).modify w.heap.size _ } : World) = { w with heap := w.heap.push (.cells c' t) }
  congr 1
  apply Array.ext
  · simp
  · intro i h1 h2
    simp only [Array.getElem_modify, Array.getElem_push]
    have hi : i < w.heap.size + 1 := by simpa using h2
    by_cases e : i < w.heap.size
    · simp [e, Nat.ne_of_gt e]
    · have e' : w.heap.size = i := by omega
      simp [e']

theorem copy_one (b : Nat) (k : Int) (w : World) (h : w.cell? ⟨b, 0, none⟩ = some (.int .i64 k)) :
    (Builtin.copy_ #[62, 62] 3 #[.slice (some ⟨w.heap.size, 0, none⟩) 2 2, .slice (some ⟨b, 0, none⟩) 1 1]).run Yba.prog (w.alloc (.cells #[.int .i64 0, .int .i64 0] 3)) = .ok (goInt 1) (w.alloc (.cells #[.int .i64 k, .int .i64 0] 3)) := by
  have hb := World.block_lt_of_cell? w _ h
  have := run_copy_row (P := Yba.prog) (w.alloc (.cells #[.int .i64 0, .int .i64 0] 3)) 62 62 3 3 w.heap.size 0 2 2 ⟨b, 0, none⟩ 1 1 #[.int .i64 0, .int .i64 0] 3 [.int .i64 k] Yba.underlying62 Yba.size3 (heap_alloc_new w _) rfl
    (fun j v hj => by
      match j, hj with
      | 0, hj =>
        simp at hj; subst hj
        simp only [Addr.add, if_true]
        rw [World.cell?_alloc_lt w _ _ hb]; exact h) (by simp) (by simp [Value.oneCell'])
  rw [this]
  simp [setRow_alloc]

set_option maxRecDepth 100000 in
set_option maxHeartbeats 400000 in
theorem appendIndex_nil (i : Int) (w : World) :
    Calls Yba.prog 9 #[.slice none 0 0, .int .i64 i] w fun e w' => e = .returned (.slice (some ⟨w.heap.size, 0, none⟩) 1 1) ∧ w' = w.alloc (.cells #[.int .i64 i] 3) := by
  have hmk : ∀ w, (Instr.makeSlice 62 (.int .i64 1) (.int .i64 1)).run Yba.prog w = .ok (.slice (some ⟨w.heap.size, 0, none⟩) 1 1) (w.alloc (.cells #[.int .i64 0] 3)) := fun _ => by kernel_rfl
  have hcp := fun w a => run_copy_nil (P := Yba.prog) w 62 62 3 3 a 1 1 Yba.underlying62 (by rw [Yba.size3]; rfl)
  go_enter Yba.func9, Yba.ntmps9
  go_wp2
  go_ret
  exact ⟨rfl, rfl⟩

set_option maxRecDepth 100000 in
set_option maxHeartbeats 400000 in
theorem appendIndex_one (b : Nat) (k i : Int) (w : World) (h : w.cell? ⟨b, 0, none⟩ = some (.int .i64 k)) :
    Calls Yba.prog 9 #[.slice (some ⟨b, 0, none⟩) 1 1, .int .i64 i] w fun e w' => e = .returned (.slice (some ⟨w.heap.size, 0, none⟩) 2 2) ∧ w' = w.alloc (.cells #[.int .i64 k, .int .i64 i] 3) := by
  have hmk : ∀ w, (Instr.makeSlice 62 (.int .i64 2) (.int .i64 2)).run Yba.prog w = .ok (.slice (some ⟨w.heap.size, 0, none⟩) 2 2) (w.alloc (.cells #[.int .i64 0, .int .i64 0] 3)) := fun _ => by kernel_rfl
  have hb := World.block_lt_of_cell? w _ h
  have hcp := copy_one b k w h
  go_enter Yba.func9, Yba.ntmps9
  go_wp2
  go_ret
  exact ⟨rfl, rfl⟩

set_option maxRecDepth 100000 in
set_option maxHeartbeats 400000 in
theorem eq_any (g1 g2 n c1 c2 : Nat) (Z : Nat → Int) (w : World) (hn : n ≤ 1024) (h1 : ∀ k, k < n → w.cell? ⟨g1, k, none⟩ = some (.int .i64 (Z k))) (h2 : ∀ k, k < n → w.cell? ⟨g2, k, none⟩ = some (.int .i64 (Z k))) :
    Calls Yba.prog 7 #[.slice (some ⟨g1, 0, none⟩) n c1, .slice (some ⟨g2, 0, none⟩) n c2] w fun e w' => e = .returned (.bool true) ∧ ∃ m, w' = w.drewN m := by
  have H1 : Hid (∀ k, k < n → w.cell? ⟨g1, k, none⟩ = some (.int .i64 (Z k))) := h1
  have H2 : Hid (∀ k, k < n → w.cell? ⟨g2, k, none⟩ = some (.int .i64 (Z k))) := h2
  clear h1 h2
  have hnil := fun w => Lib.run_eql_slice_nil (P := Yba.prog) w 62 3 (some ⟨g2, 0, none⟩) n c2 0 0 Yba.underlying62
  go_enter Yba.func7, Yba.ntmps7
  go_wp2
  go_loopw [5] (fun i wr => ∃ k m : Nat, k ≤ n ∧ i = .int .i64 k ∧ wr = w.drewN m) (fun i _ => n - (intOf i).toNat)
  case atStart => exact ⟨0, 0, Nat.zero_le _, rfl, rfl⟩
  case round =>
    obtain ⟨k, m, hk, rfl, rfl⟩ := hrel
    by_cases hlt : k < n
    · have a1 := H1.out k hlt
      have b1 := H2.out k hlt
      have hi0' : (0 : Int) ≤ (k : Int) := Int.natCast_nonneg _
      have hi1 : (k : Int) < (n : Int) := by omega
      go_wp2
      go_quiet (fail)
      go_wp2
      go_roundw
      case rel => exact ⟨k + 1, _, by omega, by go_num, rfl⟩
      case measure => simp [intOf]; omega
    · go_wp2
      go_ret
      exact ⟨rfl, m, rfl⟩
end Go.Proofs.Ybulkhuy
