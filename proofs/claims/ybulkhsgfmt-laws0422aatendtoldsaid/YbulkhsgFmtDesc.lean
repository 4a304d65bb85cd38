/-
  Walks of (token).describe (11), fmt.Errorf (10) at the one format, and of (*parser).unexpected (6) at a token that is no end.
-/
import Derived.Test.YbulkhsgFmtUnexp
import Derived.Stop.CallBack
import Derived.Stop.IfaceNil
import GoSem.ClaimData
namespace Go.Proofs.YbulkhsgFmt
open Go.RowKit Go.Extern.Stop Go.Stop Go.Extern

theorem Ybaf.call12 (args : Array Value) (w : World) : (callFunc 12 args).run Ybaf.prog w = ((FmtStop.errorf #[9, 47] #[33] args).run Ybaf.prog w).andThen fun v w' => .ok (.value v) w' :=
  run_callFunc_extern Ybaf.func12 (by kernel_rfl) (by kernel_rfl) (by kernel_rfl) (by kernel_rfl) args w
theorem Ybaf.call13 (args : Array Value) (w : World) : (callFunc 13 args).run Ybaf.prog w = ((FmtStop.sprintf #[9, 47] #[9] args).run Ybaf.prog w).andThen fun v w' => .ok (.value v) w' :=
  run_callFunc_extern Ybaf.func13 (by kernel_rfl) (by kernel_rfl) (by kernel_rfl) (by kernel_rfl) args w
theorem Ybaf.guard (name : String) (w : World) : (FmtStop.guard name).run Ybaf.prog w = .ok () w := by kernel_rfl
theorem Ybaf.fmtQ : FmtStop.printed? ⟨#[37, 113]⟩ 1 = some [(0, 113, false)] := by kernel_rfl
theorem Ybaf.fmtQr (w : World) : (FmtDoors.printed ⟨#[37, 113]⟩ 1).run Ybaf.prog w = .ok [(0, 113, false)] w := by kernel_rfl
theorem Ybaf.fmtU : FmtStop.printed? ⟨#[117, 110, 101, 120, 112, 101, 99, 116, 101, 100, 32, 37, 115]⟩ 1 = some [(0, 115, false)] := by kernel_rfl
theorem Ybaf.fmtUr (w : World) : (FmtDoors.printed ⟨#[117, 110, 101, 120, 112, 101, 99, 116, 101, 100, 32, 37, 115]⟩ 1).run Ybaf.prog w = .ok [(0, 115, false)] w := by kernel_rfl
def Ybaf.shape9 : List UInt8 := [12, 6, 0, 0, 0, 0, 0, 0, 0, 115, 116, 114, 105, 110, 103]
theorem Ybaf.op9_113 (name : String) (x : ByteArray) (w : World) : (FmtStop.operand name false 113 false (.iface 9 (.string x))).run Ybaf.prog w = .ok (Ybaf.shape9, FmtStop.pack x.data.toList) w := by kernel_rfl
theorem Ybaf.op9_115w (name : String) (x : ByteArray) (w : World) : (FmtStop.operand name true 115 false (.iface 9 (.string x))).run Ybaf.prog w = .ok (Ybaf.shape9, FmtStop.pack x.data.toList) w := by kernel_rfl
theorem Ybaf.op9_115 (name : String) (x : ByteArray) (w : World) : (FmtStop.operand name false 115 false (.iface 9 (.string x))).run Ybaf.prog w = .ok (Ybaf.shape9, FmtStop.pack x.data.toList) w := by kernel_rfl
theorem Ybaf.ptr44 (w : World) : (FmtStop.ptrTo "errors.errorString").run Ybaf.prog w = .ok 44 w := by kernel_rfl
theorem Ybaf.elem44 (w : World) : (elemOf 44).run Ybaf.prog w = .ok 46 w := by kernel_rfl
theorem Ybaf.isError44 (w : World) : (FmtDoors.textMethod 44 "Error").run Ybaf.prog w = .ok true w := by kernel_rfl
attribute [local go_sem] Ybaf.call12 Ybaf.call13 Ybaf.guard Ybaf.fmtQ Ybaf.fmtQr Ybaf.fmtU Ybaf.fmtUr Ybaf.op9_113 Ybaf.op9_115w Ybaf.op9_115 Ybaf.ptr44 Ybaf.elem44 Ybaf.isError44

set_option maxHeartbeats 400000 in
theorem errorf_any (F : Interp) (s : ByteArray) (blk : Nat) (w : World) (hF : F.answers w.tape) (hc : w.cell? ⟨blk, 0, none⟩ = some (.iface 9 (.string s))) :
    Calls Ybaf.prog 10 #[.string ⟨#[117, 110, 101, 120, 112, 101, 99, 116, 101, 100, 32, 37, 115]⟩, .slice (some ⟨blk, 0, none⟩) 1 1] w fun e w' =>
      e = .returned (.iface 44 (.pointer (some ⟨w.heap.size, 0, none⟩))) ∧ ∃ s', w' = (w.alloc (.cells #[.string s'] 46)).drew := by
  have hF' := answers_open hF
  go_enter Ybaf.func10, Ybaf.ntmps10
  go_wp2
  go_ret
  exact ⟨rfl, _, rfl⟩

set_option maxHeartbeats 400000 in
theorem describe_any (F : Interp) (x y : Int) (z : ByteArray) (w : World) (hF : F.answers w.tape) (hz : z.size ≤ 140737488355328) :
    Calls Ybaf.prog 11 #[.agg #[.int .u8 x, .int .i32 y, .string z]] w fun e w' =>
      (∃ s, e = .returned (.string s)) ∧ Below w.heap.size w w' := by
  have hF' := answers_open hF
  go_enter Ybaf.func11, Ybaf.ntmps11
  go_wp2
  all_goals
    go_ret
    exact ⟨⟨_, rfl⟩, by first | exact (Below.refl _ _).alloc (Nat.le_refl _) _ | exact (((Below.refl _ _).alloc (Nat.le_refl _) _).alloc (by simp) _).drew⟩

set_option maxRecDepth 100000 in
set_option maxHeartbeats 1000000 in
theorem unexp_other (F : Interp) (pb g n cap pos : Nat) (x y : Int) (z : ByteArray) (w : World) (hF : F.answers w.tape) (hz : z.size ≤ 140737488355328) (hpos : pos < n) (hx : (x == 0) = false)
    (h0 : w.cell? ⟨pb, 0, none⟩ = some (.slice (some ⟨g, 0, none⟩) n cap)) (h1 : w.cell? ⟨pb, 1, none⟩ = some (.int .i64 pos))
    (cK : w.cell? ⟨g, pos * 3, none⟩ = some (.int .u8 x)) (cL : w.cell? ⟨g, pos * 3 + 1, none⟩ = some (.int .i32 y)) (cT : w.cell? ⟨g, pos * 3 + 2, none⟩ = some (.string z)) :
    Calls Ybaf.prog 6 #[.pointer (some ⟨pb, 0, none⟩)] w fun e w' => (∃ q, e = .returned (.iface 44 (.pointer (some ⟨q, 0, none⟩)))) ∧ Below w.heap.size w w' := by
  have hfd := tok_kind x y z
  have lp := World.block_lt_of_cell? w _ h0
  have lg := World.block_lt_of_cell? w _ cK
  go_enter Ybaf.func6, Ybaf.ntmps6
  go_wp2_with fail
  refine (peek_any pb g n cap pos x y z _ hpos h0 h1 cK cL cT).mono ?_
  rintro e w1 ⟨rfl, hb1⟩
  go_wp2_with fail
  refine (peek_any pb g n cap pos x y z _ hpos (hb1.cell (p := ⟨pb, 0, none⟩) lp |>.trans h0) (hb1.cell (p := ⟨pb, 1, none⟩) lp |>.trans h1) (hb1.cell (p := ⟨g, pos * 3, none⟩) lg |>.trans cK) (hb1.cell (p := ⟨g, pos * 3 + 1, none⟩) lg |>.trans cL) (hb1.cell (p := ⟨g, pos * 3 + 2, none⟩) lg |>.trans cT)).mono ?_
  rintro e w2 ⟨rfl, hb2⟩
  have s1 := hb1.size
  have s2 := hb2.size
  have hb2' : Below w.heap.size w w2 := hb1.trans (hb2.mono s1)
  have HF2 : Hid (F.answers w2.tape) := by rw [Hid, hb2'.tape]; exact hF
  clear hb1 hb2 h0 h1 cK cL cT
  go_wp2_with fail
  refine (describe_any F x y z _ HF2.out hz).mono ?_
  rintro e w3 ⟨⟨s, rfl⟩, hb3⟩
  have s3 := hb3.size
  have hb3' : Below w.heap.size w w3 := hb2'.trans (hb3.mono (by omega))
  have HF3 : Hid (F.answers w3.tape) := by rw [Hid, hb3'.tape]; exact hF
  clear hb3
  go_wp2_with fail
  refine (errorf_any F s w3.heap.size _ (by exact HF3.out) (by simp [World.cell?_alloc_at])).mono ?_
  rintro e w4 ⟨rfl, s', rfl⟩
  go_wp2
  go_ret
  exact ⟨⟨_, rfl⟩, ((hb3'.alloc (by omega) _).alloc (by simp; omega) _).drew⟩
end Go.Proofs.YbulkhsgFmt
