/-
  Walks of the small functions: object's methods (74, 75, 76), sameName (11), appendIndex (9), names (5).
-/
import Derived.Test.YbulkhuyRows
import Derived.WalkKit
import Derived.WalkSpells
import Derived.WalkLawsBesides
import Derived.Deep.RegionHeld3
import Derived.Deep.AppendLies
import Derived.Deep.QuietTactic
import Derived.BigQuiet
import Derived.LaidEql
import Derived.LaidEqlPtr
namespace Go.Proofs.Ybulkhuy
open Go.RowKit

theorem hid {p : Prop} (h : p) : Hid p := h

/-- The four names, by their number. -/
def nmB : Nat → ByteArray
  | 0 => { data := #[65] }
  | 1 => { data := #[66] }
  | 2 => { data := #[99] }
  | _ => { data := #[100] }

theorem nmB_ge (i : Nat) (h : 3 ≤ i) : nmB i = { data := #[100] } := by
  match i, h with
  | n + 3, _ => rfl

/-- An object (a Func or a Var) in block b: its name, its package. -/
def ObjAt (w : World) (b P i : Nat) : Prop := w.cell? ⟨b, 0, none⟩ = some (.string (nmB i)) ∧ w.cell? ⟨b, 5, none⟩ = some (.pointer (some ⟨P, 0, none⟩))

set_option maxHeartbeats 400000 in
theorem name_any (b : Nat) (s : ByteArray) (w : World) (h : w.cell? ⟨b, 0, none⟩ = some (.string s)) :
    Calls Yba.prog 75 #[.pointer (some ⟨b, 0, none⟩)] w fun e w' => e = .returned (.string s) ∧ w' = w := by
  go_enter Yba.func75, Yba.ntmps75
  go_wp2
  go_ret
  exact ⟨rfl, rfl⟩

set_option maxHeartbeats 400000 in
theorem pkg_any (b : Nat) (p : Option Addr) (w : World) (h : w.cell? ⟨b, 5, none⟩ = some (.pointer p)) :
    Calls Yba.prog 76 #[.pointer (some ⟨b, 0, none⟩)] w fun e w' => e = .returned (.pointer p) ∧ w' = w := by
  go_enter Yba.func76, Yba.ntmps76
  go_wp2
  go_ret
  exact ⟨rfl, rfl⟩

set_option maxHeartbeats 400000 in
theorem exported_up (b : Nat) (i : Nat) (hi : i < 2) (w : World) (h : w.cell? ⟨b, 0, none⟩ = some (.string (nmB i))) :
    Calls Yba.prog 74 #[.pointer (some ⟨b, 0, none⟩)] w fun e w' => e = .returned (.bool true) ∧ w' = w := by
  rcases (show i = 0 ∨ i = 1 from by omega) with rfl | rfl
  all_goals
    simp only [nmB] at h
    clear hi
    go_enter Yba.func74, Yba.ntmps74
    go_wp2
    go_ret
    exact ⟨rfl, rfl⟩

set_option maxHeartbeats 400000 in
theorem exported_low (b : Nat) (i : Nat) (hi : 2 ≤ i) (w : World) (h : w.cell? ⟨b, 0, none⟩ = some (.string (nmB i))) :
    Calls Yba.prog 74 #[.pointer (some ⟨b, 0, none⟩)] w fun e w' => e = .returned (.bool false) ∧ w' = w := by
  rcases (show i = 2 ∨ 3 ≤ i from by omega) with rfl | h3
  · simp only [nmB] at h
    clear hi
    go_enter Yba.func74, Yba.ntmps74
    go_wp2
    go_ret
    exact ⟨rfl, rfl⟩
  · rw [nmB_ge i h3] at h
    clear hi h3
    go_enter Yba.func74, Yba.ntmps74
    go_wp2
    go_ret
    exact ⟨rfl, rfl⟩

theorem meth_name44 (a : Addr) (w : World) : (method 269 44 (.pointer (some a)) "Name").run Yba.prog w = .ok (75, .pointer (some a)) w := by kernel_rfl
theorem meth_exp44 (a : Addr) (w : World) : (method 269 44 (.pointer (some a)) "Exported").run Yba.prog w = .ok (74, .pointer (some a)) w := by kernel_rfl
theorem meth_pkg44 (a : Addr) (w : World) : (method 269 44 (.pointer (some a)) "Pkg").run Yba.prog w = .ok (76, .pointer (some a)) w := by kernel_rfl
theorem meth_name54 (a : Addr) (w : World) : (method 269 54 (.pointer (some a)) "Name").run Yba.prog w = .ok (75, .pointer (some a)) w := by kernel_rfl
theorem meth_exp54 (a : Addr) (w : World) : (method 269 54 (.pointer (some a)) "Exported").run Yba.prog w = .ok (74, .pointer (some a)) w := by kernel_rfl
theorem meth_pkg54 (a : Addr) (w : World) : (method 269 54 (.pointer (some a)) "Pkg").run Yba.prog w = .ok (76, .pointer (some a)) w := by kernel_rfl
theorem Yba.info29 : (Yba.prog.info? 29).map (fun i => (i.zero, i.size, i.bytes)) = some (some (.agg #[.string ByteArray.empty, .string ByteArray.empty, .pointer none]), 3, 40) := by kernel_rfl
theorem eql26_same (a : Addr) (w : World) : (binOp .eql 26 (.pointer (some a)) (.pointer (some a))).run Yba.prog w = .ok (.bool true) w := by
  obtain ⟨j, hj, _⟩ := info_parts Yba.info29
  exact run_eql_ptr_same w a Yba.underlying26 hj

theorem nmB_ne (i s : Nat) (hi : i < 4) (hs : s < 4) (h : i ≠ s) : ((nmB i).toList == (nmB s).toList) = false := by
  have hall : ∀ i, i < 4 → ∀ s, s < 4 → i ≠ s → ((nmB i).toList == (nmB s).toList) = false := by decide +kernel
  exact hall i hi s hs h

/-- What sameName answers. -/
def sameB (i s : Nat) (use : Bool) : Bool := decide (i = s) && (decide (s < 2) || use)

set_option maxRecDepth 100000 in
set_option maxHeartbeats 400000 in
theorem same_ne (T b P i s : Nat) (hT : T = 44 ∨ T = 54) (hi : i < 4) (hs : s < 4) (hne : i ≠ s) (pk : Option Addr) (w : World) (h : ObjAt w b P i) :
    Calls Yba.prog 11 #[.iface T (.pointer (some ⟨b, 0, none⟩)), .pointer pk, .string (nmB s)] w fun e w' => e = .returned (.bool false) ∧ w' = w := by
  obtain ⟨h0, _⟩ := h
  have hf := nmB_ne i s hi hs hne
  have m1 := meth_name44
  have m2 := meth_name54
  clear hne hi hs
  rcases hT with rfl | rfl
  all_goals
    go_enter Yba.func11, Yba.ntmps11
    go_wp2_with (go_at_call 75; refine (name_any b (nmB i) _ h0).mono ?_; rintro e w' ⟨rfl, rfl⟩)
    go_ret
    exact ⟨rfl, rfl⟩

set_option maxRecDepth 100000 in
set_option maxHeartbeats 400000 in
theorem same_up (T b P s : Nat) (hT : T = 44 ∨ T = 54) (hs : s < 2) (pk : Option Addr) (w : World) (h : ObjAt w b P s) :
    Calls Yba.prog 11 #[.iface T (.pointer (some ⟨b, 0, none⟩)), .pointer pk, .string (nmB s)] w fun e w' => e = .returned (.bool true) ∧ w' = w := by
  obtain ⟨h0, _⟩ := h
  have m1 := meth_name44
  have m2 := meth_name54
  have m3 := meth_exp44
  have m4 := meth_exp54
  have HE := fun w h => hid (exported_up b s hs w h)
  clear hs
  rcases hT with rfl | rfl
  all_goals
    go_enter Yba.func11, Yba.ntmps11
    go_wp2_with (first | (go_at_call 75; refine (name_any b (nmB s) _ h0).mono ?_; rintro e w' ⟨rfl, rfl⟩) | (go_at_call 74; refine (HE _ h0).out.mono ?_; rintro e w' ⟨rfl, rfl⟩))
    go_ret
    exact ⟨rfl, rfl⟩

set_option maxRecDepth 100000 in
set_option maxHeartbeats 400000 in
theorem same_low (T b P s : Nat) (hT : T = 44 ∨ T = 54) (hs : 2 ≤ s) (use : Bool) (w : World) (h : ObjAt w b P s) :
    Calls Yba.prog 11 #[.iface T (.pointer (some ⟨b, 0, none⟩)), .pointer (if use then some ⟨P, 0, none⟩ else none), .string (nmB s)] w fun e w' => e = .returned (.bool use) ∧ w' = w := by
  obtain ⟨h0, h5⟩ := h
  have m1 := meth_name44
  have m2 := meth_name54
  have m3 := meth_exp44
  have m4 := meth_exp54
  have m5 := meth_pkg44
  have m6 := meth_pkg54
  have he := eql26_same
  have HE := fun w h => hid (exported_low b s hs w h)
  clear hs
  cases use
  all_goals
    simp only [if_true, if_false, Bool.false_eq_true]
    rcases hT with rfl | rfl
    all_goals
      go_enter Yba.func11, Yba.ntmps11
      go_wp2_with (first | (go_at_call 75; refine (name_any b (nmB s) _ h0).mono ?_; rintro e w' ⟨rfl, rfl⟩) | (go_at_call 74; refine (HE _ h0).out.mono ?_; rintro e w' ⟨rfl, rfl⟩) | (go_at_call 76; refine (pkg_any b _ _ h5).mono ?_; rintro e w' ⟨rfl, rfl⟩))
      go_ret
      exact ⟨rfl, rfl⟩

theorem same_any (T b P i s : Nat) (hT : T = 44 ∨ T = 54) (hi : i < 4) (hs : s < 4) (use : Bool) (w : World) (h : ObjAt w b P i) :
    Calls Yba.prog 11 #[.iface T (.pointer (some ⟨b, 0, none⟩)), .pointer (if use then some ⟨P, 0, none⟩ else none), .string (nmB s)] w fun e w' => e = .returned (.bool (sameB i s use)) ∧ w' = w := by
  by_cases hne : i = s
  · subst hne
    by_cases h2 : i < 2
    · have e : sameB i i use = true := by simp [sameB, h2]
      rw [e]; exact same_up T b P i hT h2 _ w h
    · have e : sameB i i use = use := by simp [sameB, h2]
      rw [e]; exact same_low T b P i hT (by omega) use w h
  · have e : sameB i s use = false := by simp [sameB, hne]
    rw [e]; exact same_ne T b P i s hT hi hs hne _ w h
end Go.Proofs.Ybulkhuy
