/-
  The row of LawS0427AStruct, proved.
-/
import Derived.Test.YbulkhuyLawT
import Derived.WalkKit
import Derived.ProofKit
import Derived.OpenShut
import Derived.ShutString
import Derived.ChangeOld
import Derived.Below
import Derived.Deep.Slices
import Derived.Deep.Strs
import Derived.Laws.IdiomArrays
namespace Go.Proofs.Ybulkhuy
open Go.ChangeShapes Go.WideShapes Go.ChangeAt Go.RowKit Go.Deep
open Go.ChangeMaps (open_string shut_string)

theorem own : ownKnob Yba.prog.godebug = none := by kernel_rfl
theorem laidOut : laidOutB Yba.prog = true := by kernel_rfl
theorem Yba.cells53 : Yba.prog.cellsOf 53 = 3 := by kernel_rfl
theorem Yba.cells5 : Yba.prog.cellsOf 5 = 1 := by kernel_rfl
theorem Yba.cells23 : Yba.prog.cellsOf 23 = 3 := by kernel_rfl

set_option maxRecDepth 100000 in
set_option maxHeartbeats 400000 in
theorem struct_big (ao : Option Addr) (n cap : Nat) (m0 m1 m2 sel : Int) (use ind : Bool) (w : World) (hn : 512 < n) :
    Calls Yba.prog 3 #[.slice ao n cap, .agg #[.int .u8 m0, .int .u8 m1, .int .u8 m2], .int .u8 sel, .bool use, .bool ind] w (LawOut w) := by
  have hb : Below w.heap.size w (w.alloc (.cells #[.int .u8 m0, .int .u8 m1, .int .u8 m2] 23)) := (Below.refl _ _).alloc (Nat.le_refl _) _
  go_enter Yba.func3, Yba.ntmps3
  go_wp2_with fail
  go_ret
  exact ⟨rfl, hb⟩

set_option maxRecDepth 100000 in
theorem open_fld {H : Type} {enc : TypeId × Value → H} {w : World} {base : Nat} {spare : Nat → Bool} {held : Bool} {fuel : Nat} {cs : List Value} {x : DataW H × List MemPlace}
    (h : DataW.trod enc Yba.prog w base spare held fuel 53 cs = some x) : ∃ (a b c : Nat), cs = [.int .u8 a, .int .u8 b, .int .u8 c] ∧ a ≤ 255 ∧ b ≤ 255 ∧ c ≤ 255 := by
  obtain ⟨y0, y1, y2, n, _, hl, h0, h1, h2⟩ := trod_struct3 Yba.underlying53 h
  rw [Yba.cells53] at hl
  match cs, hl with
  | [c0, c1, c2], _ =>
    simp only [Yba.cells5] at h0 h1 h2
    obtain ⟨a, e0, _, wa⟩ := DataW.trod_int Yba.underlying5 h0
    obtain ⟨b, e1, _, wb⟩ := DataW.trod_int Yba.underlying5 h1
    obtain ⟨c, e2, _, wc⟩ := DataW.trod_int Yba.underlying5 h2
    simp at e0 e1 e2
    subst e0 e1 e2
    have bd : ∀ x : Int, (Lit.int .u8 x).wf = true → 0 ≤ x ∧ x ≤ 255 := fun x hx => by
      have := hx
      simp [Lit.wf, IntKind.min, IntKind.max, IntKind.signed, IntKind.bits] at this
      omega
    have ba := bd a wa
    have bb := bd b wb
    have bc := bd c wc
    refine ⟨a.toNat, b.toNat, c.toNat, ?_, by omega, by omega, by omega⟩
    rw [Int.toNat_of_nonneg ba.1, Int.toNat_of_nonneg bb.1, Int.toNat_of_nonneg bc.1]

/-- A slice of ZzS0427AField that came in. -/
theorem open_flds {H : Type} {enc : TypeId × Value → H} {w : World} {base : Nat} {spare : Nat → Bool} {held : Bool} {fuel : Nat} {ao : Option Addr} {len cap : Nat} {x : DataW H × List MemPlace}
    (h : DataW.trod enc Yba.prog w base spare held fuel 22 [.slice ao len cap] = some x) :
    ∃ (A0 A1 A2 : Nat → Nat), Flds w ao len A0 A1 A2 := by
  rcases open_slice Yba.underlying22 h with ⟨hcs, _⟩ | ⟨a, len', cap', m, n, D, Pl, hcs, _, hl, _, hm, _, hx⟩
  · simp at hcs
    obtain ⟨rfl, rfl, rfl⟩ := hcs
    exact ⟨fun _ => 0, fun _ => 0, fun _ => 0, fun h => absurd h (Nat.lt_irrefl _)⟩
  · simp at hcs
    obtain ⟨rfl, rfl, rfl⟩ := hcs
    have hle : len ≤ m := by rw [hm]; split <;> omega
    have key : ∀ k, k < len → ∃ r : Nat × Nat × Nat, w.cell? (a.add (k * 3)) = some (.int .u8 r.1) ∧ w.cell? (a.add (k * 3 + 1)) = some (.int .u8 r.2.1) ∧ w.cell? (a.add (k * 3 + 2)) = some (.int .u8 r.2.2) ∧
        r.1 ≤ 255 ∧ r.2.1 ≤ 255 ∧ r.2.2 ≤ 255 := by
      intro k hk
      obtain ⟨cs', h1, h2⟩ := hx k (by omega)
      rw [Yba.cells53] at h1
      obtain ⟨_, _, hc⟩ := World.cells?_some h1
      obtain ⟨p, q, s, rfl, hp, hp', hs⟩ := open_fld h2
      refine ⟨(p, q, s), ?_, ?_, ?_, hp, hp', hs⟩
      · have := hc 0 (by omega); rw [add_add] at this; simpa using this
      · have := hc 1 (by omega); rw [add_add] at this; simpa using this
      · have := hc 2 (by omega); rw [add_add] at this; simpa using this
    obtain ⟨f, hf⟩ := choose_lt (α := Nat × Nat × Nat) key
    refine ⟨fun k => (f k).1, fun k => (f k).2.1, fun k => (f k).2.2, fun h0 => ?_⟩
    obtain ⟨b, off, spot⟩ := a
    have hspot : spot = none := by simpa [Addr.add] using World.cell?_spot (hf 0 h0).1
    subst hspot
    refine ⟨b, off, rfl, ?_, fun k hk => ?_⟩
    · simpa [Addr.add] using World.block_lt_of_cell? w _ (hf 0 h0).1
    · obtain ⟨h1, h2, h3, h4, h5, h6⟩ := hf k hk
      rw [add_plain] at h1 h2 h3
      simp only [Nat.add_assoc]
      exact ⟨h1, h2, h3, h4, h5, h6⟩

/-- The walk at every input. -/
theorem walk (a0 : Option Addr) (len0 cap0 : Nat) (A0 A1 A2 : Nat → Nat) (x0 x1 x2 : Int) (a1 : Int) (a2 : Bool) (a3 : Bool) (w : World) (hF : Flds w a0 len0 A0 A1 A2) (w0 : (Lit.int .u8 x0).wf = true) (w1 : (Lit.int .u8 x1).wf = true) (w2 : (Lit.int .u8 x2).wf = true) (w3 : (Lit.int .u8 a1).wf = true) :
    Calls Yba.prog 3 #[.slice a0 len0 cap0, .agg #[.int .u8 x0, .int .u8 x1, .int .u8 x2], .int .u8 a1, .bool a2, .bool a3] w (LawOut w) := by
  have bd : ∀ x : Int, (Lit.int .u8 x).wf = true → 0 ≤ x ∧ x ≤ 255 := fun x hx => by
    have := hx
    simp [Lit.wf, IntKind.min, IntKind.max, IntKind.signed, IntKind.bits] at this
    omega
  by_cases hl : len0 ≤ 512
  · have b0 := bd x0 w0
    have b1 := bd x1 w1
    have b2 := bd x2 w2
    have b3 := bd a1 w3
    obtain ⟨n0, rfl⟩ : ∃ n : Nat, x0 = (n : Int) := ⟨x0.toNat, by omega⟩
    obtain ⟨n1, rfl⟩ : ∃ n : Nat, x1 = (n : Int) := ⟨x1.toNat, by omega⟩
    obtain ⟨n2, rfl⟩ : ∃ n : Nat, x2 = (n : Int) := ⟨x2.toNat, by omega⟩
    obtain ⟨sel, rfl⟩ : ∃ n : Nat, a1 = (n : Int) := ⟨a1.toNat, by omega⟩
    exact struct_any a0 len0 cap0 sel (fun k => if k = 0 then n0 else if k = 1 then n1 else n2) A0 A1 A2 a2 a3 w hl (by omega) (fun k => by by_cases h0 : k = 0 <;> by_cases h1 : k = 1 <;> simp [h0, h1] <;> omega) hF
  · exact struct_big a0 len0 cap0 x0 x1 x2 a1 a2 a3 w (by omega)

theorem list3 {α : Type} (l : List α) (h : l.length = 3) : ∃ a b c, l = [a, b, c] := by
  match l, h with
  | [a, b, c], _ => exact ⟨a, b, c, rfl⟩

/-! ### The row's step -/
set_option maxHeartbeats 400000 in
set_option maxRecDepth 100000 in
theorem lifted (os : Os) (started : os.Started) (H : Type) (enc : TypeId × Value → H) :
    ReturnsInHanded {} Yba.checked os 3 .any (Rows.lawS0427AStructSpec.pre6 enc Yba.prog Yba.f3 Rows.lawS0427AStructRow.domain false) (Rows.lawS0427AStructSpec.post enc Yba.prog Yba.f3 false true false false) := by
  refine returnsInHanded_of_change (C := Yba.checked) own started (by kernel_rfl) Yba.func3
    (ChangeSpec.witness6 (enc := enc) (C := Yba.checked) false ⟨#[], #[.slice none 0 0, .agg #[.int .u8 0, .int .u8 0, .int .u8 0], .int .u8 0, .bool false, .bool false], []⟩ 8 (by kernel_rfl) (by kernel_rfl) (by kernel_rfl) (by kernel_rfl)) ?_
  intro W base args ds gs before hval0 hW hcnd _
  have hval : ∀ (j : Nat) t v, Yba.f3.params[j]? = some t → args[j]? = some v → Value.okWide Yba.prog W .any base t v := hval0
  have hW' := hW
  obtain ⟨p, q, hA0, hV, rfl, hfz, hnd⟩ := hW
  have hA : DataW.TrodAll enc Yba.prog W 0 (fun _ => true) true Yba.f3.params.toList args.toList ds p := hA0
  rw [Yba.params3] at hA hval
  obtain ⟨v0, vs0, d0, ds0, p0, q0, hargs, rfl, rfl, h0, r0⟩ := trodAll_cons hA
  obtain ⟨v1, vs1, d1, ds1, p1, q1, rfl, rfl, rfl, h1, r1⟩ := trodAll_cons r0
  obtain ⟨v2, vs2, d2, ds2, p2, q2, rfl, rfl, rfl, h2, r2⟩ := trodAll_cons r1
  obtain ⟨v3, vs3, d3, ds3, p3, q3, rfl, rfl, rfl, h3, r3⟩ := trodAll_cons r2
  obtain ⟨v4, vs4, d4, ds4, p4, q4, rfl, rfl, rfl, h4, r4⟩ := trodAll_cons r3
  obtain ⟨rfl, rfl, rfl⟩ := trodAll_nil r4
  obtain rfl : args = #[v0, v1, v2, v3, v4] := by cases args; simp_all
  obtain ⟨rfl, rfl⟩ := trodVars_none hV
  obtain ⟨a0, len0, cap0, rfl⟩ := okWide_slice Yba.underlying22 (hval 0 22 v0 rfl rfl)
  have k0 := h0
  have lt0 : ∀ x ∈ p0, x.block < W.heap.size := by obtain ⟨m, hm⟩ := k0; exact DataW.trod_lt m _ _ _ hm
  obtain ⟨A0, A1, A2, hF⟩ : ∃ A0 A1 A2, Flds W a0 len0 A0 A1 A2 := by
    obtain ⟨fuel, hf⟩ := h0
    exact open_flds hf
  obtain ⟨cs, rfl, hsz, _⟩ : ∃ cs, v1 = .agg cs ∧ cs.size = Yba.prog.cellsOf 23 ∧ Row.okWide Yba.prog W .any base 23 cs := by
    have := hval 1 23 v1 rfl rfl
    simpa [Value.okWide, Yba.underlying23] using this
  rw [Yba.cells23] at hsz
  obtain ⟨l⟩ := cs
  obtain ⟨c0, c1, c2, rfl⟩ := list3 l hsz
  have k1 := h1
  have lt1 : ∀ x ∈ p1, x.block < W.heap.size := by obtain ⟨m, hm⟩ := k1; exact DataW.trod_lt m _ _ _ hm
  obtain ⟨fuel, hf⟩ := h1
  obtain ⟨y0, y1, y2, m, hx, hy0, hy1, hy2⟩ := trod_array3 Yba.underlying23 Yba.cells5 hf
  obtain ⟨x0, e0, rfl, w0⟩ := DataW.trod_int Yba.underlying5 hy0
  obtain ⟨x1, e1, rfl, w1⟩ := DataW.trod_int Yba.underlying5 hy1
  obtain ⟨x2, e2, rfl, w2⟩ := DataW.trod_int Yba.underlying5 hy2
  simp at e0 e1 e2
  subst e0 e1 e2
  clear hx hf
  obtain ⟨a1, rfl, rfl, rfl, w3⟩ := open_int Yba.underlying5 (hval 2 5 v2 rfl rfl) h2
  obtain ⟨a2, rfl, rfl, rfl⟩ := open_bool Yba.underlying4 (hval 3 4 v3 rfl rfl) h3
  obtain ⟨a3, rfl, rfl, rfl⟩ := open_bool Yba.underlying4 (hval 4 4 v4 rfl rfl) h4
  clear hA0 hval0
  refine (walk a0 len0 cap0 A0 A1 A2 x0 x1 x2 a1 a2 a3 W hF w0 w1 w2 w3).mono fun e W' ⟨he, bel⟩ => ?_
  subst he
  exact ⟨_, rfl, _, _, _, [], _, [], hW', trodAll_mk1 (shut_bool Yba.underlying4 _), (trodAll_cons_mk (Below.trod laidOut (by kernel_rfl) (of_decide_eq_true (by kernel_rfl)) k0 bel lt0) (trodAll_cons_mk (Below.trod laidOut (by kernel_rfl) (of_decide_eq_true (by kernel_rfl)) k1 bel lt1) (trodAll_cons_mk (shut_int Yba.underlying5 w3) (trodAll_cons_mk (shut_bool Yba.underlying4 _) (trodAll_cons_mk (shut_bool Yba.underlying4 _) trodAll_mk0))))), rfl, bel.frame _, fun h => by cases h⟩

theorem over : Rows.lawS0427AStructRow.holds Yba.pinned (OpenSpec.ofChange Rows.lawS0427AStructSpec) :=
  OpenClaim.holds_of_wide 3 Yba.f3 rfl rfl rfl rfl rfl rfl rfl ⟨rfl, rfl, rfl, rfl, rfl⟩ rfl rfl rfl rfl rfl (by kernel_rfl) Yba.func3 (by kernel_rfl)
    (of_decide_eq_true (by kernel_rfl)) (by unfold Func.isWrapper; first | (rw [if_pos (by decide +kernel)]; kernel_rfl) | (rw [if_neg (by decide +kernel)]; exact ⟨rfl, rfl⟩))
    (fun os started H enc _ => lifted os started H enc)

/-- The statement. -/
theorem struct_law : Rows.LawS0427AStructSaid := over
end Go.Proofs.Ybulkhuy
