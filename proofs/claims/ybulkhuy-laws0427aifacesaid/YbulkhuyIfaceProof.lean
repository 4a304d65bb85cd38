/-
  The row of LawS0427AIface, proved (the frame is the given shell's).
-/
import Derived.Test.YbulkhuyLawI
import Derived.WalkKit
import Derived.ProofKit
import Derived.OpenShut
import Derived.ShutString
import Derived.ChangeOld
import Derived.Below
namespace Go.Proofs.Ybulkhuy
open Go.ChangeShapes Go.WideShapes Go.ChangeAt Go.RowKit
open Go.ChangeMaps (open_string shut_string)

theorem own : ownKnob Yba.prog.godebug = none := by kernel_rfl
theorem laidOut : laidOutB Yba.prog = true := by kernel_rfl

set_option maxRecDepth 100000 in
set_option maxHeartbeats 400000 in
theorem iface_big (ao : Option Addr) (n cap : Nat) (sel : Int) (use ind : Bool) (w : World) (hn : 512 < n) :
    Calls Yba.prog 4 #[.slice ao n cap, .int .u8 sel, .bool use, .bool ind] w fun e w' => e = .returned (.bool true) ∧ Below w.heap.size w w' := by
  go_enter Yba.func4, Yba.ntmps4
  go_wp2_with fail
  go_ret
  exact ⟨rfl, Below.refl _ _⟩

/-- WHAT THE WALK IS TOLD OF A SLICE OF INTEGERS THAT CAME IN: it is nil; or it leads to a row of 'cap' cells, the numbers 'zs' (the first 'len' are its elements, the rest its spare room), each fitting its kind. -/
def IsRow (k : IntKind) (w : World) (a : Option Addr) (len cap : Nat) (zs : List Int) : Prop :=
  (a = none ∧ len = 0 ∧ cap = 0 ∧ zs = []) ∨
  ∃ x, a = some x ∧ len ≤ cap ∧ cap ≤ maxLen ∧ zs.length = cap ∧ (∀ i, i < zs.length → w.cell? (x.add i) = some (.int k (zs.getD i 0))) ∧ ∀ n ∈ zs, (Lit.int k n).wf = true

/-- The walk at every input. -/
theorem walk (a0 : Option Addr) (len0 cap0 : Nat) (z0 : List Int) (a1 : Int) (a2 : Bool) (a3 : Bool) (w : World) (w0 : IsRow .u8 w a0 len0 cap0 z0) (w1 : (Lit.int .u8 a1).wf = true) :
    Calls Yba.prog 4 #[.slice a0 len0 cap0, .int .u8 a1, .bool a2, .bool a3] w fun e w' => e = .returned (.bool true) ∧ Below w.heap.size w w' := by
  have bd : ∀ x : Int, (Lit.int .u8 x).wf = true → 0 ≤ x ∧ x ≤ 255 := fun x hx => by
    have := hx
    simp [Lit.wf, IntKind.min, IntKind.max, IntKind.signed, IntKind.bits] at this
    omega
  by_cases hl : len0 ≤ 512
  · have hB : Bytes w a0 len0 (fun k => (z0.getD k 0).toNat) := by
      intro h0
      rcases w0 with ⟨_, h, _⟩ | ⟨x, rfl, hlc, _, hz, hc, hw⟩
      · omega
      · obtain ⟨b, off, rfl, hcell⟩ := ints_at hc (by omega)
        refine ⟨b, off, rfl, ?_, fun k hk => ?_⟩
        · exact World.block_lt_of_cell? w _ (hcell 0 (by omega))
        · have hk' : k < z0.length := by omega
          have hm : z0.getD k 0 ∈ z0 := by rw [List.getD_eq_getElem?_getD, List.getElem?_eq_getElem hk']; exact List.getElem_mem hk'
          have := bd _ (hw _ hm)
          refine ⟨?_, (by omega : (z0.getD k 0).toNat ≤ 255)⟩
          rw [hcell k hk']
          have e : (((z0.getD k 0).toNat : Nat) : Int) = z0.getD k 0 := by omega
          simp only [e]
    have hs := bd a1 w1
    obtain ⟨sel, rfl⟩ : ∃ sel : Nat, a1 = (sel : Int) := ⟨a1.toNat, by omega⟩
    by_cases hx : ∃ k, k < len0 ∧ sameB ((z0.getD k 0).toNat % 4) (sel % 4) a2 = true
    · obtain ⟨k0, h1, h2, h3⟩ : ∃ k0, k0 < len0 ∧ sameB ((z0.getD k0 0).toNat % 4) (sel % 4) a2 = true ∧ ∀ j, j < k0 → sameB ((z0.getD j 0).toNat % 4) (sel % 4) a2 = false := by
        obtain ⟨k, hk⟩ := hx
        induction k using Nat.strongRecOn with
        | _ k ih =>
          by_cases hj : ∃ j, j < k ∧ sameB ((z0.getD j 0).toNat % 4) (sel % 4) a2 = true
          · obtain ⟨j, hjk, hjs⟩ := hj
            exact ih j hjk ⟨by omega, hjs⟩
          · refine ⟨k, hk.1, hk.2, fun j hj' => ?_⟩
            cases hb : sameB ((z0.getD j 0).toNat % 4) (sel % 4) a2
            · rfl
            · exact absurd ⟨j, hj', hb⟩ hj
      exact iface_hit a0 len0 cap0 sel k0 a2 a3 (fun k => (z0.getD k 0).toNat) w hl (by omega) hB h1 h2 h3
    · refine iface_none a0 len0 cap0 sel a2 a3 (fun k => (z0.getD k 0).toNat) w hl (by omega) hB (fun j hj => ?_)
      cases hb : sameB ((z0.getD j 0).toNat % 4) (sel % 4) a2
      · rfl
      · exact absurd ⟨j, hj, hb⟩ hx
  · exact iface_big a0 len0 cap0 a1 a2 a3 w (by omega)

/-! ### The row's step -/
set_option maxRecDepth 100000 in
theorem lifted (os : Os) (started : os.Started) (H : Type) (enc : TypeId × Value → H) :
    ReturnsInHanded {} Yba.checked os 4 .any (Rows.lawS0427AIfaceSpec.pre6 enc Yba.prog Yba.f4 Rows.lawS0427AIfaceRow.domain false) (Rows.lawS0427AIfaceSpec.post enc Yba.prog Yba.f4 false true false false) := by
  refine returnsInHanded_of_change (C := Yba.checked) own started (by kernel_rfl) Yba.func4
    (ChangeSpec.witness6 (enc := enc) (C := Yba.checked) false ⟨#[], #[.slice none 0 0, .int .u8 0, .bool false, .bool false], []⟩ 8 (by kernel_rfl) (by kernel_rfl) (by kernel_rfl) (by kernel_rfl)) ?_
  intro W base args ds gs before hval0 hW hcnd _
  have hval : ∀ (j : Nat) t v, Yba.f4.params[j]? = some t → args[j]? = some v → Value.okWide Yba.prog W .any base t v := hval0
  have hW' := hW
  obtain ⟨p, q, hA0, hV, rfl, hfz, hnd⟩ := hW
  have hA : DataW.TrodAll enc Yba.prog W 0 (fun _ => true) true Yba.f4.params.toList args.toList ds p := hA0
  rw [Yba.params4] at hA hval
  obtain ⟨v0, vs0, d0, ds0, p0, q0, hargs, rfl, rfl, h0, r0⟩ := trodAll_cons hA
  obtain ⟨v1, vs1, d1, ds1, p1, q1, rfl, rfl, rfl, h1, r1⟩ := trodAll_cons r0
  obtain ⟨v2, vs2, d2, ds2, p2, q2, rfl, rfl, rfl, h2, r2⟩ := trodAll_cons r1
  obtain ⟨v3, vs3, d3, ds3, p3, q3, rfl, rfl, rfl, h3, r3⟩ := trodAll_cons r2
  obtain ⟨rfl, rfl, rfl⟩ := trodAll_nil r3
  obtain rfl : args = #[v0, v1, v2, v3] := by cases args; simp_all
  obtain ⟨rfl, rfl⟩ := trodVars_none hV
  obtain ⟨a0, len0, cap0, rfl⟩ := okWide_slice Yba.underlying69 (hval 0 69 v0 rfl rfl)
  have k0 := h0
  have lt0 : ∀ x ∈ p0, x.block < W.heap.size := by obtain ⟨m, hm⟩ := k0; exact DataW.trod_lt m _ _ _ hm
  obtain ⟨z0, w0⟩ : ∃ zs, IsRow .u8 W a0 len0 cap0 zs := by
    obtain ⟨fuel, hf⟩ := h0
    rcases open_ints Yba.underlying69 Yba.underlying5 (by kernel_rfl) hf with ⟨hcs, _⟩ | ⟨x, l, c, zs, hcs, _, hl, hm, hz, _, hcell, hwz⟩
    · simp [Value.cells] at hcs
      obtain ⟨rfl, rfl, rfl⟩ := hcs
      exact ⟨[], .inl ⟨rfl, rfl, rfl, rfl⟩⟩
    · simp [Value.cells] at hcs
      obtain ⟨rfl, rfl, rfl⟩ := hcs
      exact ⟨zs, .inr ⟨_, rfl, hl, hm, by simpa using hz, hcell, hwz⟩⟩
  obtain ⟨a1, rfl, rfl, rfl, w1⟩ := open_int Yba.underlying5 (hval 1 5 v1 rfl rfl) h1
  obtain ⟨a2, rfl, rfl, rfl⟩ := open_bool Yba.underlying4 (hval 2 4 v2 rfl rfl) h2
  obtain ⟨a3, rfl, rfl, rfl⟩ := open_bool Yba.underlying4 (hval 3 4 v3 rfl rfl) h3
  clear hA0 hval0
  refine (walk a0 len0 cap0 z0 a1 a2 a3 W w0 w1).mono fun e W' ⟨he, bel⟩ => ?_
  subst he
  exact ⟨_, rfl, _, _, _, [], _, [], hW', trodAll_mk1 (shut_bool Yba.underlying4 _), (trodAll_cons_mk (Below.trod laidOut (by kernel_rfl) (of_decide_eq_true (by kernel_rfl)) k0 bel lt0) (trodAll_cons_mk (shut_int Yba.underlying5 w1) (trodAll_cons_mk (shut_bool Yba.underlying4 _) (trodAll_cons_mk (shut_bool Yba.underlying4 _) trodAll_mk0)))), rfl, bel.frame _, fun h => by cases h⟩

theorem over : Rows.lawS0427AIfaceRow.holds Yba.pinned (OpenSpec.ofChange Rows.lawS0427AIfaceSpec) :=
  OpenClaim.holds_of_wide 4 Yba.f4 rfl rfl rfl rfl rfl rfl rfl ⟨rfl, rfl, rfl, rfl, rfl⟩ rfl rfl rfl rfl rfl (by kernel_rfl) Yba.func4 (by kernel_rfl)
    (of_decide_eq_true (by kernel_rfl)) (by unfold Func.isWrapper; first | (rw [if_pos (by decide +kernel)]; kernel_rfl) | (rw [if_neg (by decide +kernel)]; exact ⟨rfl, rfl⟩))
    (fun os started H enc _ => lifted os started H enc)

/-- The statement. -/
theorem iface_law : Rows.LawS0427AIfaceSaid := over
end Go.Proofs.Ybulkhuy
