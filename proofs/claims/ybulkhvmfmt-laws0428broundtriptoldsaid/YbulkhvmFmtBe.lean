/-
  Walks of (bigEndian).Uint32 (11) and zzs0428bbe (6): four bytes read.
-/
import Derived.Test.YbulkhvmFmtRows
import Derived.WalkKit
import Derived.WalkSpells
import Derived.WalkLawsBesides
import Derived.Deep.QuietTactic
import Derived.BigQuiet
import Derived.Lib.EndianBits
namespace Go.Proofs.YbulkhvmFmt
open Go.RowKit

theorem hid {p : Prop} (h : p) : Hid p := h

/-- Four bytes, the greatest first. -/
def be4 (b0 b1 b2 b3 : Nat) : Nat := b0 * 16777216 + b1 * 65536 + b2 * 256 + b3

theorem le_or (b0 b1 b2 b3 : Nat) (h0 : b0 < 256) (h1 : b1 < 256) (h2 : b2 < 256) (h3 : b3 < 256) :
    bits .or .u32 (bits .or .u32 (bits .or .u32 (b3 : Int) ((b2 : Int) * 256)) ((b1 : Int) * 65536)) ((b0 : Int) * 16777216) = ((be4 b0 b1 b2 b3 : Nat) : Int) := by
  rw [bits_join_low .u32 32 (by decide) wraps_u32 8 (b3 : Int) ((b2 : Int) * 256) (by omega) (by omega) (by omega) (by omega) (by omega) (by omega),
    bits_join_low .u32 32 (by decide) wraps_u32 16 ((b3 : Int) + (b2 : Int) * 256) ((b1 : Int) * 65536) (by omega) (by omega) (by omega) (by omega) (by omega) (by omega),
    bits_join_low .u32 32 (by decide) wraps_u32 24 ((b3 : Int) + (b2 : Int) * 256 + (b1 : Int) * 65536) ((b0 : Int) * 16777216) (by omega) (by omega) (by omega) (by omega) (by omega) (by omega)]
  unfold be4
  omega

theorem be_or (b0 b1 b2 b3 : Nat) (h0 : b0 < 256) (h1 : b1 < 256) (h2 : b2 < 256) (h3 : b3 < 256) :
    bits .or .u32 (bits .or .u32 (bits .or .u32 ((b0 : Int) * 16777216) ((b1 : Int) * 65536)) ((b2 : Int) * 256)) (b3 : Int) = ((be4 b0 b1 b2 b3 : Nat) : Int) := by
  rw [bits_join .u32 32 (by decide) wraps_u32 24 ((b0 : Int) * 16777216) ((b1 : Int) * 65536) (by omega) (by omega) (by omega) (by omega) (by omega) (by omega),
    bits_join .u32 32 (by decide) wraps_u32 16 ((b0 : Int) * 16777216 + (b1 : Int) * 65536) ((b2 : Int) * 256) (by omega) (by omega) (by omega) (by omega) (by omega) (by omega),
    bits_join .u32 32 (by decide) wraps_u32 8 ((b0 : Int) * 16777216 + (b1 : Int) * 65536 + (b2 : Int) * 256) (b3 : Int) (by omega) (by omega) (by omega) (by omega) (by omega) (by omega)]
  unfold be4
  omega

set_option maxRecDepth 100000 in
set_option maxHeartbeats 1000000 in
theorem uint32_any (g o n c b0 b1 b2 b3 : Nat) (w : World) (hn : 4 ≤ n) (h0 : b0 < 256) (h1 : b1 < 256) (h2 : b2 < 256) (h3 : b3 < 256)
    (c0 : w.cell? ⟨g, o, none⟩ = some (.int .u8 b0)) (c1 : w.cell? ⟨g, o + 1, none⟩ = some (.int .u8 b1)) (c2 : w.cell? ⟨g, o + 2, none⟩ = some (.int .u8 b2)) (c3 : w.cell? ⟨g, o + 3, none⟩ = some (.int .u8 b3)) :
    Calls Ybaf.prog 11 #[.agg #[], .slice (some ⟨g, o, none⟩) n c] w fun e w' => e = .returned (.int .u32 (be4 b0 b1 b2 b3)) ∧ Below w.heap.size w w' := by
  have lg := World.block_lt_of_cell? w _ c0
  have k0 : (0 : Int) < (n : Int) := by omega
  have k1 : (1 : Int) < (n : Int) := by omega
  have k2 : (2 : Int) < (n : Int) := by omega
  have k3 : (3 : Int) < (n : Int) := by omega
  go_enter Ybaf.func11, Ybaf.ntmps11
  go_wp2
  go_quiet (fail)
  go_wp2
  go_ret
  refine ⟨?_, below_drewN ((Below.refl _ _).alloc (Nat.le_refl _) _) _⟩
  show Ending.returned (.int .u32 _) = _
  exact congrArg (fun z => Ending.returned (.int .u32 z)) (le_or b0 b1 b2 b3 h0 h1 h2 h3)

set_option maxRecDepth 100000 in
set_option maxHeartbeats 1000000 in
theorem be_any (g o n c b0 b1 b2 b3 : Nat) (w : World) (hn : 4 ≤ n) (h0 : b0 < 256) (h1 : b1 < 256) (h2 : b2 < 256) (h3 : b3 < 256)
    (c0 : w.cell? ⟨g, o, none⟩ = some (.int .u8 b0)) (c1 : w.cell? ⟨g, o + 1, none⟩ = some (.int .u8 b1)) (c2 : w.cell? ⟨g, o + 2, none⟩ = some (.int .u8 b2)) (c3 : w.cell? ⟨g, o + 3, none⟩ = some (.int .u8 b3)) :
    Calls Ybaf.prog 6 #[.slice (some ⟨g, o, none⟩) n c] w fun e w' => e = .returned (.int .u32 (be4 b0 b1 b2 b3)) ∧ Below w.heap.size w w' := by
  have lg := World.block_lt_of_cell? w _ c0
  have k0 : (0 : Int) < (n : Int) := by omega
  have k1 : (1 : Int) < (n : Int) := by omega
  have k2 : (2 : Int) < (n : Int) := by omega
  have k3 : (3 : Int) < (n : Int) := by omega
  go_enter Ybaf.func6, Ybaf.ntmps6
  go_wp2
  go_quiet (fail)
  go_wp2
  go_ret
  refine ⟨?_, below_drewN (Below.refl _ _) _⟩
  show Ending.returned (.int .u32 _) = _
  exact congrArg (fun z => Ending.returned (.int .u32 z)) (be_or b0 b1 b2 b3 h0 h1 h2 h3)
end Go.Proofs.YbulkhvmFmt
