/-
  Walk of LawS0428BExact (3).
-/
import Derived.Test.YbulkhvmFmtCv
namespace Go.Proofs.YbulkhvmFmt
open Go.RowKit Go.Extern.Stop Go.Stop Go.Extern

/-- n bytes that came in. -/
def Bytes (w : World) (ao : Option Addr) (n : Nat) (Z : Nat → Nat) : Prop :=
  0 < n → ∃ b off, ao = some ⟨b, off, none⟩ ∧ b < w.heap.size ∧ ∀ k, k < n → w.cell? ⟨b, off + k, none⟩ = some (.int .u8 (Z k)) ∧ Z k < 256

def LawOut (w : World) (e : Ending) (w' : World) : Prop := e = .returned (.bool true) ∧ Below w.heap.size w w'

theorem exact_big (t a b : Int) (ao : Option Addr) (n cap : Nat) (w : World) (hn : 1048576 < n) :
    Calls Ybaf.prog 3 #[.int .u8 t, .int .u32 a, .int .u32 b, .slice ao n cap] w (LawOut w) := by
  go_enter Ybaf.func3, Ybaf.ntmps3
  go_wp2_with fail
  go_ret
  exact ⟨rfl, Below.refl _ _⟩

set_option maxHeartbeats 400000 in
theorem exact_short (F : Interp) (t a b : Int) (ao : Option Addr) (n cap : Nat) (w : World) (hF : F.answers w.tape) (hn : n < 4) :
    Calls Ybaf.prog 3 #[.int .u8 t, .int .u32 a, .int .u32 b, .slice ao n cap] w (LawOut w) := by
  have HF := hid hF
  clear hF
  have hn1 : ¬ (1048576 : Int) < (n : Int) := by omega
  have hn' : (n : Int) < 4 := by omega
  go_enter Ybaf.func3, Ybaf.ntmps3
  go_wp2_with fail
  refine (cv_short F t a b n cap ao _ (by exact HF.out) hn).mono ?_
  rintro e w1 ⟨⟨q, rfl⟩, hb⟩
  go_wp2
  go_ret
  exact ⟨rfl, ((Below.refl _ w).alloc (Nat.le_refl _) _).trans (hb.mono (by simp))⟩

set_option maxHeartbeats 400000 in
theorem exact_long (t a b : Int) (ao : Option Addr) (n cap : Nat) (Z : Nat → Nat) (w : World) (hn : 4 ≤ n) (hm : n ≤ 1048576) (hB : Bytes w ao n Z) :
    Calls Ybaf.prog 3 #[.int .u8 t, .int .u32 a, .int .u32 b, .slice ao n cap] w (LawOut w) := by
  have hn1 : ¬ (1048576 : Int) < (n : Int) := by omega
  have hn' : ¬ (n : Int) < 4 := by omega
  obtain ⟨g, o, rfl, lg, hc⟩ := hB (by omega)
  have HC := hid hc
  clear hc hB
  go_enter Ybaf.func3, Ybaf.ntmps3
  go_wp2_with fail
  refine (cv_long t a b g o n cap (Z 0) (Z 1) (Z 2) (Z 3) _ hn (HC.out 0 (by omega)).2 (HC.out 1 (by omega)).2 (HC.out 2 (by omega)).2 (HC.out 3 (by omega)).2
    ((World.cell?_alloc_past _ _ _ lg).trans (HC.out 0 (by omega)).1) ((World.cell?_alloc_past _ _ _ lg).trans (HC.out 1 (by omega)).1) ((World.cell?_alloc_past _ _ _ lg).trans (HC.out 2 (by omega)).1) ((World.cell?_alloc_past _ _ _ lg).trans (HC.out 3 (by omega)).1)).mono ?_
  rintro e w1 ⟨rfl, hb⟩
  have hb' : Below w.heap.size w w1 := ((Below.refl _ w).alloc (Nat.le_refl _) _).trans (hb.mono (by simp))
  have HB := hid hb'
  clear hb hb'
  go_wp2_with fail
  refine (be_any g o n cap (Z 0) (Z 1) (Z 2) (Z 3) _ hn (HC.out 0 (by omega)).2 (HC.out 1 (by omega)).2 (HC.out 2 (by omega)).2 (HC.out 3 (by omega)).2
    ((HB.out.cell (p := ⟨g, o, none⟩) lg).trans (HC.out 0 (by omega)).1) ((HB.out.cell (p := ⟨g, o + 1, none⟩) lg).trans (HC.out 1 (by omega)).1) ((HB.out.cell (p := ⟨g, o + 2, none⟩) lg).trans (HC.out 2 (by omega)).1) ((HB.out.cell (p := ⟨g, o + 3, none⟩) lg).trans (HC.out 3 (by omega)).1)).mono ?_
  rintro e w2 ⟨rfl, hb2⟩
  go_wp2
  go_ret
  exact ⟨rfl, HB.out.trans (hb2.mono HB.out.size)⟩
end Go.Proofs.YbulkhvmFmt
