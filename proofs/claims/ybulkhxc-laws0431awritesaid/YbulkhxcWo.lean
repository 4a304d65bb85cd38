/-
  Walk of writeOut (function 5).
-/
import Derived.Test.YbulkhxcWr
namespace Go.Proofs.Ybulkhxc
open Go.RowKit

@[local go_sem] theorem ahead_write (a : Addr) (w : World) : (nilAhead 158 27 (.pointer (some a)) "Write").run Yba.prog w = .ok (some false) w := by kernel_rfl
@[local go_sem] theorem meth_write (a : Addr) (w : World) : (method 158 27 (.pointer (some a)) "Write").run Yba.prog w = .ok (21, .pointer (some a)) w := by kernel_rfl

theorem wr_ok (q g n k eb m : Nat) (fail : Bool) (zs : List Value) (w : World)
    (h : Hid (w.heap[q]? = some (.cells #[.int .i64 k, .bool fail, .int .i64 0, .int .i64 0, .slice none 0 0, .iface 34 (.pointer (some ⟨eb, 0, none⟩))] 29 (0, 0)) ∧
      w.heap[g]? = some (.cells zs.toArray 5 (0, 0)) ∧ zs.length = n ∧ (∀ v ∈ zs, v.oneCell' = true) ∧ n ≤ 1024 ∧ k ≤ 65535 ∧ g ≠ q ∧ m = if n < k then n else k)) :
    Calls Yba.prog 21 #[.pointer (some ⟨q, 0, none⟩), .slice (some ⟨g, 0, none⟩) n n] w.drew fun e w' => ∃ r, e = .returned (.tuple #[.int .i64 m, r]) ∧ Hid (WrOut q n k eb m fail zs w.drew e w') := by
  obtain ⟨h1, h2, h3, h4, h5, h6, h7, h8⟩ := h.out
  exact (write_any q g n k eb m fail zs w.drew h1 h2 h3 h4 h5 h6 h7 h8).mono fun e w' h => ⟨_, h.1, h⟩

/-- What writeOut leaves. -/
def WoOut (q g n k eb m bb sb : Nat) (x : Int) (fail : Bool) (zs : List Value) (w : World) (e : Ending) (w' : World) : Prop :=
  ∃ r v, e = .returned r ∧ r = (if fail then .iface 34 (.pointer (some ⟨eb, 0, none⟩)) else .nilIface) ∧
    w'.heap[q]? = some (.cells #[.int .i64 k, .bool fail, .int .i64 1, .int .i64 n, v, .iface 34 (.pointer (some ⟨eb, 0, none⟩))] 29 (0, 0)) ∧
    w'.ownsRow w.heap.size 5 1 v m (zs.take m) ∧ w'.heap[bb]? = some (.cells #[.slice (some ⟨g, 0, none⟩) 0 n] 22 (0, 0)) ∧
    w'.heap[sb]? = some (.cells #[.int .i64 (wrap64 (x + m))] 2 (0, 0)) ∧ Fr (fun b => b = q ∨ b = bb ∨ b = sb) w w'

theorem owns_set {w : World} {base e size : Nat} {v : Value} {m : Nat} {xs : List Value} (h : w.ownsRow base e size v m xs) {p : Addr} (hp : p.block < base) (u : Value) : (w.setCell p u).ownsRow base e size v m xs := by
  refine ⟨h.1, ?_⟩
  rcases h.2 with h | ⟨g, cap, cur, h1, h2, h3, h4⟩
  · exact .inl h
  · exact .inr ⟨g, cap, cur, h1, h2, by rw [heap_setCell_other _ _ _ _ (by omega)]; exact h3, h4⟩

theorem wo_close {q g n k eb m bb sb : Nat} {x : Int} {fail : Bool} {zs : List Value} {w w' : World} {r : Value}
    (hw : WrOut q n k eb m fail zs w.drew (.returned (.tuple #[.int .i64 m, r])) w')
    (hbb : w.heap[bb]? = some (.cells #[.slice (some ⟨g, 0, none⟩) n n] 22 (0, 0))) (hsb : w.heap[sb]? = some (.cells #[.int .i64 x] 2 (0, 0)))
    (hd : bb ≠ q ∧ sb ≠ q ∧ bb ≠ sb ∧ bb ≠ g ∧ sb ≠ g) {r' : Value} (hr : r' = r) :
    WoOut q g n k eb m bb sb x fail zs w (.returned r') ((w'.setCell ⟨sb, 0, none⟩ (.int .i64 (wrap64 (x + m)))).setCell ⟨bb, 0, none⟩ (.slice (some ⟨g, 0, none⟩) 0 n)) := by
  subst hr
  obtain ⟨h1, v, h2, h3, h4⟩ := hw
  obtain ⟨d1, d2, d3, d4, d5⟩ := hd
  have lb := lt_heap hbb
  have ls := lt_heap hsb
  have er : r' = (if fail then .iface 34 (.pointer (some ⟨eb, 0, none⟩)) else .nilIface) := by simpa using h1
  refine ⟨_, v, rfl, er, ?_, ?_, ?_, ?_, ?_⟩
  · rw [heap_setCell_other _ _ _ _ (by exact d1.symm), heap_setCell_other _ _ _ _ (by exact d2.symm)]; exact h2
  · exact owns_set (owns_set h3 (by exact ls) _) (by exact lb) _
  · have e := (h4.block bb lb d1).trans hbb
    rw [heap_setCell_same _ bb 0 _ _ _ ((heap_setCell_other _ _ _ _ (by exact d3)).trans e)]; rfl
  · have e := (h4.block sb ls d2).trans hsb
    rw [heap_setCell_other _ _ _ _ (by exact d3.symm), heap_setCell_same _ sb 0 _ _ _ e]; rfl
  · have h5 : Fr (fun b => b = q ∨ b = bb ∨ b = sb) w w' := (show Fr (· = q) w w' from ⟨h4.os, h4.tape, h4.output, h4.size, h4.block⟩).mono fun b _ hb => .inl hb
    exact (h5.setCell (p := ⟨sb, 0, none⟩) (fun _ => .inr (.inr rfl)) _).setCell (p := ⟨bb, 0, none⟩) (fun _ => .inr (.inl rfl)) _

set_option maxRecDepth 100000 in
set_option maxHeartbeats 1000000 in
theorem writeOut_any (q g n k eb m bb sb : Nat) (x : Int) (fail : Bool) (zs : List Value) (w : World)
    (h : Hid (w.heap[q]? = some (.cells #[.int .i64 k, .bool fail, .int .i64 0, .int .i64 0, .slice none 0 0, .iface 34 (.pointer (some ⟨eb, 0, none⟩))] 29 (0, 0)) ∧
      w.heap[g]? = some (.cells zs.toArray 5 (0, 0)) ∧ zs.length = n ∧ (∀ v ∈ zs, v.oneCell' = true) ∧ n ≤ 1024 ∧ k ≤ 65535 ∧ g ≠ q ∧ m = if n < k then n else k))
    (hbb : w.heap[bb]? = some (.cells #[.slice (some ⟨g, 0, none⟩) n n] 22 (0, 0))) (hsb : w.heap[sb]? = some (.cells #[.int .i64 x] 2 (0, 0)))
    (hd : bb ≠ q ∧ sb ≠ q ∧ bb ≠ sb ∧ bb ≠ g ∧ sb ≠ g) :
    Calls Yba.prog 5 #[.iface 27 (.pointer (some ⟨q, 0, none⟩)), .pointer (some ⟨bb, 0, none⟩), .pointer (some ⟨sb, 0, none⟩)] w (WoOut q g n k eb m bb sb x fail zs w) := by
  have cb := cell_of_row w bb 0 _ _ _ hbb
  have cs := cell_of_row w sb 0 _ _ _ hsb
  simp at cb cs
  have fb := frozen_of_row w bb 0 _ _ hbb
  have fs := frozen_of_row w sb 0 _ _ hsb
  have HBB := hid hbb
  have HSB := hid hsb
  clear hbb hsb
  go_enter Yba.func5, Yba.ntmps5
  go_wp2_with fail
  go_region_with (go_at_call 21; refine (wr_ok q g n k eb m fail zs w h).mono ?_; rintro e w' ⟨r, rfl, HW⟩)
  all_goals
    obtain ⟨v, hfr2⟩ : ∃ v : Nat, Fr (· = q) w.drew w' := ⟨0, (by obtain ⟨_, v, _, _, hf⟩ := HW.out; exact hf)⟩
    have cb2 := (hfr2.cell (p := ⟨bb, 0, none⟩) (lt_heap HBB.out) hd.1).trans cb
    have cs2 := (hfr2.cell (p := ⟨sb, 0, none⟩) (lt_heap HSB.out) hd.2.1).trans cs
    have fb2 := (World.frozen?_of_block (a := ⟨bb, 0, none⟩) (hfr2.block bb (lt_heap HBB.out) hd.1)).trans fb
    have fs2 := (World.frozen?_of_block (a := ⟨sb, 0, none⟩) (hfr2.block sb (lt_heap HSB.out) hd.2.1)).trans fs
    clear hfr2 v cb cs fb fs
    go_wp2
    go_ret
    exact wo_close HW.out HBB.out HSB.out hd rfl
end Go.Proofs.Ybulkhxc
