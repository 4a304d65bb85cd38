/-
  Walks of (*parser).peek (8), errors.New (9), (*errorString).Error (30) and of (*parser).unexpected (6) at an end token.
-/
import Derived.Test.YbulkhsgFmtBuild
namespace Go.Proofs.YbulkhsgFmt
open Go.RowKit

set_option maxRecDepth 100000 in
set_option maxHeartbeats 1000000 in
theorem peek_any (pb g n cap pos : Nat) (x y : Int) (z : ByteArray) (w : World) (hpos : pos < n)
    (h0 : w.cell? ⟨pb, 0, none⟩ = some (.slice (some ⟨g, 0, none⟩) n cap)) (h1 : w.cell? ⟨pb, 1, none⟩ = some (.int .i64 pos))
    (cK : w.cell? ⟨g, pos * 3, none⟩ = some (.int .u8 x)) (cL : w.cell? ⟨g, pos * 3 + 1, none⟩ = some (.int .i32 y)) (cT : w.cell? ⟨g, pos * 3 + 2, none⟩ = some (.string z)) :
    Calls Ybaf.prog 8 #[.pointer (some ⟨pb, 0, none⟩)] w fun e w' => e = .returned (.agg #[.int .u8 x, .int .i32 y, .string z]) ∧ Below w.heap.size w w' := by
  have lp := World.block_lt_of_cell? w _ h0
  have lg := World.block_lt_of_cell? w _ cK
  have hi0' : (0 : Int) ≤ (pos : Int) := Int.natCast_nonneg _
  have hi1 : (pos : Int) < (n : Int) := by omega
  have n0 := World.new_ne w _ h0
  have n1 := World.new_ne w _ h1
  have n2 := World.new_ne w _ cK
  have n3 := World.new_ne w _ cL
  have n4 := World.new_ne w _ cT
  go_enter Ybaf.func8, Ybaf.ntmps8
  go_wp2_with fail
  go_region_held3 (fun w' => w'.cell? ⟨pb, 0, none⟩ = some (.slice (some ⟨g, 0, none⟩) n cap) ∧ w'.cell? ⟨pb, 1, none⟩ = some (.int .i64 pos) ∧
      w'.cell? ⟨g, pos * 3, none⟩ = some (.int .u8 x) ∧ w'.cell? ⟨g, pos * 3 + 1, none⟩ = some (.int .i32 y) ∧ w'.cell? ⟨g, pos * 3 + 2, none⟩ = some (.string z)) (go_keep) (fail)
  go_wp2
  exact bodyPost_ret (v := .agg #[.int .u8 x, .int .i32 y, .string z]) (by simp [results, Ybaf.results8, go_sem]) rfl ⟨rfl, ((Below.refl _ _).alloc (Nat.le_refl _) _).drew⟩

set_option maxHeartbeats 400000 in
theorem new_any (s : ByteArray) (w : World) :
    Calls Ybaf.prog 9 #[.string s] w fun e w' => e = .returned (.iface 44 (.pointer (some ⟨w.heap.size, 0, none⟩))) ∧ w' = w.alloc (.cells #[.string s] 46) := by
  go_enter Ybaf.func9, Ybaf.ntmps9
  go_wp2
  go_ret
  exact ⟨rfl, rfl⟩

set_option maxHeartbeats 400000 in
theorem error_any (a : Nat) (s : ByteArray) (w : World) (h : w.cell? ⟨a, 0, none⟩ = some (.string s)) :
    Calls Ybaf.prog 30 #[.pointer (some ⟨a, 0, none⟩)] w fun e w' => e = .returned (.string s) ∧ w' = w := by
  go_enter Ybaf.func30, Ybaf.ntmps30
  go_wp2
  go_ret
  exact ⟨rfl, rfl⟩

theorem tok_kind (x y : Int) (z : ByteArray) (w : World) : (Instr.field 28 (.agg #[.int .u8 x, .int .i32 y, .string z]) 0).run Ybaf.prog w = .ok (.int .u8 x) w := by kernel_rfl

/-- The fixed text. -/
abbrev endText : ByteArray := { data := #[116, 104, 101, 32, 115, 116, 97, 116, 101, 109, 101, 110, 116, 32, 101, 110, 100, 115, 32, 116, 111, 111, 32, 101, 97, 114, 108, 121] }

set_option maxRecDepth 100000 in
set_option maxHeartbeats 1000000 in
theorem unexp_end (pb g n cap pos : Nat) (y : Int) (z : ByteArray) (w : World) (hpos : pos < n)
    (h0 : w.cell? ⟨pb, 0, none⟩ = some (.slice (some ⟨g, 0, none⟩) n cap)) (h1 : w.cell? ⟨pb, 1, none⟩ = some (.int .i64 pos))
    (cK : w.cell? ⟨g, pos * 3, none⟩ = some (.int .u8 0)) (cL : w.cell? ⟨g, pos * 3 + 1, none⟩ = some (.int .i32 y)) (cT : w.cell? ⟨g, pos * 3 + 2, none⟩ = some (.string z)) :
    Calls Ybaf.prog 6 #[.pointer (some ⟨pb, 0, none⟩)] w fun e w' => ∃ q, e = .returned (.iface 44 (.pointer (some ⟨q, 0, none⟩))) ∧ w.heap.size ≤ q ∧
      w'.cell? ⟨q, 0, none⟩ = some (.string endText) ∧ Below w.heap.size w w' := by
  have hfd := tok_kind 0 y z
  go_enter Ybaf.func6, Ybaf.ntmps6
  go_wp2_with (first | (go_at_call 8; refine (peek_any pb g n cap pos 0 y z _ hpos h0 h1 cK cL cT).mono ?_; rintro e w1 ⟨rfl, hb⟩) | (go_at_call 9; refine (new_any _ _).mono ?_; rintro e w2 ⟨rfl, rfl⟩))
  go_ret
  have := hb.size
  exact ⟨_, rfl, this, by simp [World.cell?_alloc_at], hb.trans ((Below.refl _ _).alloc this _)⟩
end Go.Proofs.YbulkhsgFmt
