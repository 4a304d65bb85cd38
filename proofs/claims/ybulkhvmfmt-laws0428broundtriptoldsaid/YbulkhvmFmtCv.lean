/-
  Walk of ControlValue (5): a payload of fewer than four bytes is an error; else the four bytes are read.
-/
import Derived.Test.YbulkhvmFmtBe
import Derived.Stop.CallBack
import Derived.Stop.IfaceNil
import GoSem.ClaimData
namespace Go.Proofs.YbulkhvmFmt
open Go.RowKit Go.Extern.Stop Go.Stop Go.Extern

theorem Ybaf.call13 (args : Array Value) (w : World) : (callFunc 13 args).run Ybaf.prog w = ((FmtStop.errorf #[9, 39] #[27] args).run Ybaf.prog w).andThen fun v w' => .ok (.value v) w' :=
  run_callFunc_extern Ybaf.func13 (by kernel_rfl) (by kernel_rfl) (by kernel_rfl) (by kernel_rfl) args w
theorem Ybaf.guard (name : String) (w : World) : (FmtStop.guard name).run Ybaf.prog w = .ok () w := by kernel_rfl
def fmtB : ByteArray := { data := ([112, 114, 111, 116, 111, 99, 111, 108, 32, 99, 111, 110, 116, 114, 111, 108, 32, 109, 101, 115, 115, 97, 103, 101, 32, 111, 102, 32, 116, 121, 112, 101, 32, 37, 100, 32].append [104, 97, 115, 32, 37, 100, 32, 112, 97, 121, 108, 111, 97, 100, 32, 98, 121, 116, 101, 115, 44, 32, 119, 97, 110, 116, 32, 97, 116, 32, 108, 101, 97, 115, 116, 32, 52]).toArray }
theorem Ybaf.fmtU : FmtStop.printed? fmtB 2 = some [(0, 100, false), (1, 100, false)] := by kernel_rfl
theorem Ybaf.fmtUr (w : World) : (FmtDoors.printed fmtB 2).run Ybaf.prog w = .ok [(0, 100, false), (1, 100, false)] w := by kernel_rfl
def Ybaf.shape5 : List UInt8 := [6, 5, 0, 0, 0, 0, 0, 0, 0, 117, 105, 110, 116, 56]
def Ybaf.shape3 : List UInt8 := [5, 3, 0, 0, 0, 0, 0, 0, 0, 105, 110, 116]
theorem Ybaf.op5 (name : String) (x : Int) (w : World) : (FmtStop.operand name true 100 false (.iface 5 (.int .u8 x))).run Ybaf.prog w = .ok (Ybaf.shape5, digits 8 (x % 2 ^ 64).toNat) w := by kernel_rfl
theorem Ybaf.op3 (name : String) (x : Int) (w : World) : (FmtStop.operand name true 100 false (.iface 3 (.int .i64 x))).run Ybaf.prog w = .ok (Ybaf.shape3, digits 8 (x % 2 ^ 64).toNat) w := by kernel_rfl
theorem Ybaf.op5f (name : String) (x : Int) (w : World) : (FmtStop.operand name false 100 false (.iface 5 (.int .u8 x))).run Ybaf.prog w = .ok (Ybaf.shape5, digits 8 (x % 2 ^ 64).toNat) w := by kernel_rfl
theorem Ybaf.op3f (name : String) (x : Int) (w : World) : (FmtStop.operand name false 100 false (.iface 3 (.int .i64 x))).run Ybaf.prog w = .ok (Ybaf.shape3, digits 8 (x % 2 ^ 64).toNat) w := by kernel_rfl
theorem Ybaf.ptr43 (w : World) : (FmtStop.ptrTo "errors.errorString").run Ybaf.prog w = .ok 43 w := by kernel_rfl
theorem Ybaf.elem43 (w : World) : (elemOf 43).run Ybaf.prog w = .ok 45 w := by kernel_rfl
theorem Ybaf.isError43 (w : World) : (FmtDoors.textMethod 43 "Error").run Ybaf.prog w = .ok true w := by kernel_rfl
attribute [local go_sem] Ybaf.call13 Ybaf.guard Ybaf.fmtU Ybaf.fmtUr Ybaf.op5 Ybaf.op3 Ybaf.op5f Ybaf.op3f Ybaf.ptr43 Ybaf.elem43 Ybaf.isError43

set_option maxHeartbeats 400000 in
theorem errorf_any (F : Interp) (x y : Int) (blk : Nat) (w : World) (hF : F.answers w.tape) (hc : w.cell? ⟨blk, 0, none⟩ = some (.iface 5 (.int .u8 x))) (hd : w.cell? ⟨blk, 1, none⟩ = some (.iface 3 (.int .i64 y))) :
    Calls Ybaf.prog 10 #[.string fmtB, .slice (some ⟨blk, 0, none⟩) 2 2] w fun e w' =>
      (∃ q, e = .returned (.iface 43 (.pointer (some ⟨q, 0, none⟩)))) ∧ Below w.heap.size w w' := by
  have hF' := answers_open hF
  go_enter Ybaf.func10, Ybaf.ntmps10
  go_wp2
  go_ret
  exact ⟨⟨_, rfl⟩, ((Below.refl _ _).alloc (Nat.le_refl _) _).drew⟩

set_option maxHeartbeats 400000 in
theorem cv_short (F : Interp) (t a b : Int) (n c : Nat) (ao : Option Addr) (w : World) (hF : F.answers w.tape) (hn : n < 4) :
    Calls Ybaf.prog 5 #[.agg #[.int .u8 t, .int .u32 a, .int .u32 b, .slice ao n c]] w fun e w' =>
      (∃ q, e = .returned (.tuple #[.int .u32 0, .iface 43 (.pointer (some ⟨q, 0, none⟩))])) ∧ Below w.heap.size w w' := by
  have HF := hid hF
  clear hF
  have hn' : (n : Int) < 4 := by omega
  go_enter Ybaf.func5, Ybaf.ntmps5
  go_wp2_with fail
  refine (errorf_any F t n (w.heap.size + 1) _ (by exact HF.out) ((World.cell?_alloc_at _ _ _ _ (by simp)).trans rfl) ((World.cell?_alloc_at _ _ _ _ (by simp)).trans rfl)).mono ?_
  rintro e w1 ⟨⟨q, rfl⟩, hb⟩
  go_wp2
  go_ret2
  exact ⟨⟨q, rfl⟩, (((Below.refl _ w).alloc (Nat.le_refl _) _).alloc (by simp) _).trans (hb.mono (by simp; omega))⟩

set_option maxHeartbeats 400000 in
theorem cv_long (t a b : Int) (g o n c b0 b1 b2 b3 : Nat) (w : World) (hn : 4 ≤ n) (h0 : b0 < 256) (h1 : b1 < 256) (h2 : b2 < 256) (h3 : b3 < 256)
    (c0 : w.cell? ⟨g, o, none⟩ = some (.int .u8 b0)) (c1 : w.cell? ⟨g, o + 1, none⟩ = some (.int .u8 b1)) (c2 : w.cell? ⟨g, o + 2, none⟩ = some (.int .u8 b2)) (c3 : w.cell? ⟨g, o + 3, none⟩ = some (.int .u8 b3)) :
    Calls Ybaf.prog 5 #[.agg #[.int .u8 t, .int .u32 a, .int .u32 b, .slice (some ⟨g, o, none⟩) n c]] w fun e w' =>
      e = .returned (.tuple #[.int .u32 (be4 b0 b1 b2 b3), .nilIface]) ∧ Below w.heap.size w w' := by
  have hn' : ¬ (n : Int) < 4 := by omega
  go_enter Ybaf.func5, Ybaf.ntmps5
  go_wp2_with fail
  have lg := World.block_lt_of_cell? w _ c0
  refine (uint32_any g o n c b0 b1 b2 b3 _ hn h0 h1 h2 h3 ((World.cell?_alloc_past _ _ _ lg).trans c0) ((World.cell?_alloc_past _ _ _ lg).trans c1) ((World.cell?_alloc_past _ _ _ lg).trans c2) ((World.cell?_alloc_past _ _ _ lg).trans c3)).mono ?_
  rintro e w1 ⟨rfl, hb⟩
  go_wp2
  go_ret2
  exact ⟨rfl, ((Below.refl _ w).alloc (Nat.le_refl _) _).trans (hb.mono (by simp))⟩
end Go.Proofs.YbulkhvmFmt
