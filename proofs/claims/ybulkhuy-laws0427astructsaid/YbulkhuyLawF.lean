/-
  Walk of LawS0427AStruct (function 3): as far as the count of the fields of the asked name.
-/
import Derived.Test.YbulkhuyS0
import Derived.Test.YbulkhuyLookS
import Derived.Deep.RegionLaw
import Derived.Deep.AppendLies
import Derived.Deep.CutRange
namespace Go.Proofs.Ybulkhuy
open Go.RowKit
def LawOut (w : World) (e : Ending) (w' : World) : Prop := e = .returned (.bool true) ∧ Below w.heap.size w w'

theorem NB.start (W1 : World) (M : Nat → Nat) (Mk : Nat) (hMk : ∀ t, t < 3 → W1.cell? ⟨Mk, t, none⟩ = some (.int .u8 (M t))) :
    NB (((W1.alloc (.cells #[.string ⟨#[65]⟩, .string ⟨#[66]⟩, .string ⟨#[99]⟩, .string ⟨#[100]⟩] 24)).alloc (.cells #[.string ⟨#[112]⟩, .string ⟨#[112]⟩, .pointer none] 29)).alloc (.cells #[.pointer none, .pointer none, .pointer none] 31))
      Mk W1.heap.size (W1.heap.size + 1) (W1.heap.size + 1 + 1) M 0 (fun _ => 0) (fun _ => 0) (fun _ => 0) (fun _ => none) (fun _ _ => 0) := by
  have lM := World.block_lt_of_cell? W1 _ (hMk 0 (by omega))
  refine ⟨fun m hm => ?_, fun t ht => ?_, ?_, fun t ht => absurd ht (Nat.not_lt_zero _), fun i j hi => absurd hi (Nat.not_lt_zero _), by omega, by exact Nat.lt_of_lt_of_le lM (by omega)⟩
  · rw [World.cell?_alloc_past _ _ _ (by simp; omega), World.cell?_alloc_past _ _ _ (by simp), World.cell?_alloc_at _ _ _ _ rfl]
    match m, hm with
    | 0, _ | 1, _ | 2, _ | 3, _ => rfl
  · have l : Mk < W1.heap.size := lM
    rw [World.cell?_alloc_past _ _ _ (by simp; omega), World.cell?_alloc_past _ _ _ (by simp; omega), World.cell?_alloc_past _ _ _ l]; exact hMk t ht
  · have := World.rowIs_alloc ((W1.alloc (.cells #[.string ⟨#[65]⟩, .string ⟨#[66]⟩, .string ⟨#[99]⟩, .string ⟨#[100]⟩] 24)).alloc (.cells #[.string ⟨#[112]⟩, .string ⟨#[112]⟩, .pointer none] 29)) #[.pointer none, .pointer none, .pointer none] 31 (fun _ => .pointer none) (fun i hi => by
      match i, hi with
      | 0, _ | 1, _ | 2, _ => rfl)
    have es : ((W1.alloc (.cells #[.string ⟨#[65]⟩, .string ⟨#[66]⟩, .string ⟨#[99]⟩, .string ⟨#[100]⟩] 24)).alloc (.cells #[.string ⟨#[112]⟩, .string ⟨#[112]⟩, .pointer none] 29)).heap.size = W1.heap.size + 1 + 1 := by simp
    rw [es] at this
    exact this.congr (fun i _ => by simp)

/-- n fields that came in. -/
def Flds (w : World) (ao : Option Addr) (n : Nat) (A0 A1 A2 : Nat → Nat) : Prop :=
  0 < n → ∃ b off, ao = some ⟨b, off, none⟩ ∧ b < w.heap.size ∧ ∀ k, k < n → w.cell? ⟨b, off + k * 3, none⟩ = some (.int .u8 (A0 k)) ∧ w.cell? ⟨b, off + k * 3 + 1, none⟩ = some (.int .u8 (A1 k)) ∧ w.cell? ⟨b, off + k * 3 + 2, none⟩ = some (.int .u8 (A2 k)) ∧ A0 k ≤ 255 ∧ A1 k ≤ 255 ∧ A2 k ≤ 255

theorem Yba.info54s : (Yba.prog.info? 54).map (fun i => (i.zero, i.size, i.bytes)) = some (some (.pointer none), 1, 8) := by kernel_rfl

theorem nmB_size (m : Nat) : (nmB m).size = 1 := by
  match m with
  | 0 | 1 | 2 | _ + 3 => rfl
theorem nmB_ge65 (m : Nat) (h : 0 < (nmB m).size) : (65 : Int) ≤ (((nmB m)[0]'h).toNat : Int) := by
  revert h
  match m with
  | 0 => exact fun h => (by decide : (65 : Int) ≤ 65)
  | 1 => exact fun h => (by decide : (65 : Int) ≤ 66)
  | 2 => exact fun h => (by decide : (65 : Int) ≤ 99)
  | _ + 3 => exact fun h => (by decide : (65 : Int) ≤ 100)
theorem nmB_vis (m : Nat) (h : 0 < (nmB m).size) : decide ((((nmB m)[0]'h).toNat : Int) ≤ 90) = vis m false := by
  revert h
  match m with
  | 0 => exact fun h => (by decide : decide ((65 : Int) ≤ 90) = vis 0 false)
  | 1 => exact fun h => (by decide : decide ((66 : Int) ≤ 90) = vis 1 false)
  | 2 => exact fun h => (by decide : decide ((99 : Int) ≤ 90) = vis 2 false)
  | n + 3 =>
    have e : vis (n + 3) false = false := by simp [vis]
    rw [e]
    exact fun h => (by decide : decide ((100 : Int) ≤ 90) = false)
theorem sm_eq (i m : Nat) (use : Bool) : sameB i m use = (decide (i = m) && vis m use) := by
  unfold sameB vis
  rw [Bool.or_comm]
def lastI (sm : Nat → Bool) : Nat → Int
  | 0 => -1
  | i + 1 => if sm i then i else lastI sm i
theorem cntF_one (sm : Nat → Bool) (p : Nat) : cntF sm (p + 1) = cntF sm p + (if sm p then 1 else 0) := rfl
theorem lastI_one (sm : Nat → Bool) (p : Nat) : lastI sm (p + 1) = if sm p then (p : Int) else lastI sm p := rfl
theorem lastI_pos (sm : Nat → Bool) (p : Nat) (h : 0 < cntF sm p) : lastI sm p = (lastF sm p : Int) ∧ lastF sm p < p := by
  induction p with
  | zero => simp [cntF] at h
  | succ p ih =>
    simp only [cntF] at h
    cases hs : sm p
    · rw [hs] at h
      simp at h
      obtain ⟨h1, h2⟩ := ih h
      simp only [lastI, lastF, hs]
      exact ⟨h1, by simp; omega⟩
    · simp only [lastI, lastF, hs]
      exact ⟨by simp, by simp⟩
theorem Yba.info56s : (Yba.prog.info? 56).map (fun i => (i.zero.isSome, i.size)) = some (true, 9) := by kernel_rfl
theorem Yba.comp54 : (Yba.prog.info? 54).map (fun i => i.comparable) = some true := by kernel_rfl
theorem eql61_54 (a : Addr) (w : World) : (binOp .eql 61 (.iface 54 (.pointer (some a))) (.iface 54 (.pointer (some a)))).run Yba.prog w = .ok (.bool true) w := by
  obtain ⟨i, hi, hc⟩ := Option.map_eq_some_iff.1 Yba.comp54
  obtain ⟨j, hj, _⟩ := Option.map_eq_some_iff.1 Yba.info56s
  exact run_eql_iface_ptr_same w a Yba.underlying61 Yba.underlying54 hi hc hj
theorem eq_one (g : Nat) (wr : World) (la : Nat) (cg : wr.cell? ⟨g, 0, none⟩ = some (.int .i64 la)) :
    Calls Yba.prog 7 #[.slice (some ⟨g, 0, none⟩) 1 1, .slice (some ⟨wr.heap.size, 0, none⟩) 1 1] (wr.alloc (.cells #[.int .i64 la] 3)) fun e w' => e = .returned (.bool true) ∧ ∃ m, w' = (wr.alloc (.cells #[.int .i64 la] 3)).drewN m := by
  have lg := World.block_lt_of_cell? wr _ cg
  refine eq_any g wr.heap.size 1 1 1 (fun _ => (la : Int)) _ (by omega) (fun i hi => ?_) (fun i hi => ?_)
  · have e : i = 0 := by omega
    subst e
    rw [World.cell?_alloc_lt wr _ _ lg]; exact cg
  · have e : i = 0 := by omega
    subst e
    rw [World.cell?_alloc_at _ _ _ _ rfl]; rfl
/-- What the law wants of the second round, behind the fields counted so far. -/
def Want (wx : World) (st : Nat × Nat) (ind : Bool) (kd tg : Nat → Nat) (mi : Nat → Option Nat) (MB : Nat → Nat → Nat) (wv wi wb : Value) : Prop :=
  (st.1 = 0 ∧ wv = .nilIface ∧ wi = .slice none 0 0 ∧ wb = .bool false) ∨
  (0 < st.1 ∧ ∃ t g, mi (tg st.2) = some t ∧ wv = .iface 44 (.pointer (some ⟨MB (tg st.2) t, 0, none⟩)) ∧ wi = .slice (some ⟨g, 0, none⟩) 2 2 ∧ wb = .bool (ind || decide (kd st.2 = 2)) ∧
    wx.cell? ⟨g, 0, none⟩ = some (.int .i64 st.2) ∧ wx.cell? ⟨g, 1, none⟩ = some (.int .i64 t))
theorem Want.hit {wx : World} {st : Nat × Nat} {ind : Bool} {kd tg : Nat → Nat} {mi : Nat → Option Nat} {MB : Nat → Nat → Nat} {wv wi wb : Value} {c r t l g : Nat} (hst : st = (c, r)) (hc : 0 < c) (ht : t = tg r) (hm : mi t = some l)
    (hv : wv = .iface 44 (.pointer (some ⟨MB t l, 0, none⟩))) (hi : wi = .slice (some ⟨g, 0, none⟩) 2 2) (hb : wb = .bool (ind || decide (kd r = 2))) (h0 : wx.cell? ⟨g, 0, none⟩ = some (.int .i64 r)) (h1 : wx.cell? ⟨g, 1, none⟩ = some (.int .i64 l)) : Want wx st ind kd tg mi MB wv wi wb := by
  subst hst ht
  exact .inr ⟨hc, l, g, hm, hv, hi, hb, h0, h1⟩
theorem Want.below {wx wy : World} {st : Nat × Nat} {ind : Bool} {kd tg : Nat → Nat} {mi : Nat → Option Nat} {MB : Nat → Nat → Nat} {wv wi wb : Value} (h : Want wx st ind kd tg mi MB wv wi wb) (hb : Below wx.heap.size wx wy) : Want wy st ind kd tg mi MB wv wi wb := by
  rcases h with h | ⟨h0, t, g, h1, h2, h3, h4, h5, h6⟩
  · exact .inl h
  · exact .inr ⟨h0, t, g, h1, h2, h3, h4, (hb.cell (p := ⟨g, 0, none⟩) (World.block_lt_of_cell? wx _ h5)).trans h5, (hb.cell (p := ⟨g, 1, none⟩) (World.block_lt_of_cell? wx _ h6)).trans h6⟩
theorem eq_two (g g' : Nat) (wr : World) (a b : Nat) (c0 : wr.cell? ⟨g, 0, none⟩ = some (.int .i64 a)) (c1 : wr.cell? ⟨g, 1, none⟩ = some (.int .i64 b)) (d0 : wr.cell? ⟨g', 0, none⟩ = some (.int .i64 a)) (d1 : wr.cell? ⟨g', 1, none⟩ = some (.int .i64 b)) :
    Calls Yba.prog 7 #[.slice (some ⟨g, 0, none⟩) 2 2, .slice (some ⟨g', 0, none⟩) 2 2] wr fun e w' => e = .returned (.bool true) ∧ ∃ m, w' = wr.drewN m := by
  refine eq_any g g' 2 2 2 (fun k => if k = 0 then (a : Int) else (b : Int)) _ (by omega) (fun i hi => ?_) (fun i hi => ?_)
  · rcases (show i = 0 ∨ i = 1 by omega) with e | e
    · subst e; exact c0
    · subst e; exact c1
  · rcases (show i = 0 ∨ i = 1 by omega) with e | e
    · subst e; exact d0
    · subst e; exact d1
theorem Yba.info51 : (Yba.prog.info? 51).map (fun i => (i.zero.isSome, i.size)) = some (true, 7) := by kernel_rfl
theorem Yba.comp44 : (Yba.prog.info? 44).map (fun i => i.comparable) = some true := by kernel_rfl
theorem eql61_same (a : Addr) (w : World) : (binOp .eql 61 (.iface 44 (.pointer (some a))) (.iface 44 (.pointer (some a)))).run Yba.prog w = .ok (.bool true) w := by
  obtain ⟨i, hi, hc⟩ := Option.map_eq_some_iff.1 Yba.comp44
  obtain ⟨j, hj, _⟩ := Option.map_eq_some_iff.1 Yba.info51
  exact run_eql_iface_ptr_same w a Yba.underlying61 Yba.underlying44 hi hc hj
theorem vis_true (m : Nat) : vis m true = true := rfl

theorem OutS.tuple {w w' : World} {cnt last : Nat} {st : Nat × Nat} {ind : Bool} {V kd tg : Nat → Nat} {mi : Nat → Option Nat} {MB : Nat → Nat → Nat} {e : Ending} (h : OutS w cnt last st ind V kd tg mi MB e w') :
    ∃ obj ix ib, e = .returned (.tuple #[obj, ix, .bool ib]) ∧ Hid (OutS w cnt last st ind V kd tg mi MB (.returned (.tuple #[obj, ix, .bool ib])) w') := by
  rcases h.1 with ⟨_, g, rfl, _⟩ | ⟨_, _, t, g, _, rfl, _⟩ | ⟨_, _, rfl⟩
  · exact ⟨_, _, _, rfl, h⟩
  · exact ⟨_, _, _, rfl, h⟩
  · exact ⟨_, _, _, rfl, h⟩

/-- A proof in two parts: what is left (T), and the whole out of it. -/
structure Rest (P : Prop) : Prop where
  out : P
structure Pack (C : Prop) where
  T : Prop
  go : Rest T → C

set_option maxRecDepth 100000 in
set_option maxHeartbeats 8000000 in
def front :
    Pack (∀ (ao : Option Addr) (n cap sel : Nat) (M A0 A1 A2 : Nat → Nat) (use ind : Bool) (w : World), n ≤ 512 → sel ≤ 255 → (∀ k, M k ≤ 255) → Flds w ao n A0 A1 A2 →
      Calls Yba.prog 3 #[.slice ao n cap, .agg #[.int .u8 (M 0), .int .u8 (M 1), .int .u8 (M 2)], .int .u8 sel, .bool use, .bool ind] w (LawOut w)) := by
  apply Pack.mk
  · intro hT ao n cap sel M A0 A1 A2 use ind w hn hsel hM hFl
    have hmk0 : ∀ t, t < 3 → (w.alloc (.cells #[.int .u8 (M 0), .int .u8 (M 1), .int .u8 (M 2)] 23)).cell? ⟨w.heap.size, t, none⟩ = some (.int .u8 (M t)) := fun t ht => by
      rw [World.cell?_alloc_at _ _ _ _ rfl]
      match t, ht with
      | 0, _ | 1, _ | 2, _ => rfl
    have HMK := hid hmk0
    clear hmk0
    have HFL := hid hFl
    clear hFl
    have hmk := run_make_row' (P := Yba.prog) 33 54 (.pointer none) 8 Yba.underlying33 Yba.info54s rfl .i64 .i64 n (by omega) (by omega)
    obtain ⟨i0, hi, hz0, hz1, hz2⟩ := info_parts Yba.info44s
    have HI := hid hi
    have HZ0 := hid hz0
    have HZ1 := hid hz1
    have HZ2 := hid hz2
    clear hi hz0 hz1 hz2
    go_enter Yba.func3, Yba.ntmps3
    go_wp2_with (go_at_call 5; refine (names_any _).mono ?_; rintro e W1 ⟨rfl, hb1⟩)
    have hst := NB.start W1 M w.heap.size (fun t ht => (hb1.cell (p := ⟨w.heap.size, t, none⟩) (by simp)).trans (HMK.out t ht))
    have hN1 := hb1.size
    have hbl : Below w.heap.size w (((W1.alloc (.cells #[.string ⟨#[65]⟩, .string ⟨#[66]⟩, .string ⟨#[99]⟩, .string ⟨#[100]⟩] 24)).alloc (.cells #[.string ⟨#[112]⟩, .string ⟨#[112]⟩, .pointer none] 29)).alloc (.cells #[.pointer none, .pointer none, .pointer none] 31)) := by
      have h1 : Below w.heap.size w W1 := ((Below.refl _ w).alloc (Nat.le_refl _) _).trans (hb1.mono (by simp))
      have h2 := h1.size
      exact ((h1.alloc h2 _).alloc (by simp; omega) _).alloc (by simp; omega) _
    generalize ((W1.alloc (.cells #[.string ⟨#[65]⟩, .string ⟨#[66]⟩, .string ⟨#[99]⟩, .string ⟨#[100]⟩] 24)).alloc (.cells #[.string ⟨#[112]⟩, .string ⟨#[112]⟩, .pointer none] 29)).alloc (.cells #[.pointer none, .pointer none, .pointer none] 31) = W2 at *
    clear hb1 HMK
    simp at hN1
    have HN1 := hid hN1
    have HST := hid hst
    have HBL := hid hbl
    clear hst hbl hN1
    generalize W1.heap.size = N0 at *
    have HLA : Hid (w.heap.size ≤ N0) := by have := HN1.out; show w.heap.size ≤ N0; omega
    obtain ⟨Mk, hMk⟩ : ∃ Mk, Mk = w.heap.size := ⟨_, rfl⟩
    rw [← hMk] at HST ⊢
    have HMk := hid hMk
    clear hMk
    go_loopw [14] (fun i wr => ∃ (k : Nat) (N S cp : Nat → Nat) (aom : Nat → Option Addr) (MB : Nat → Nat → Nat), k ≤ 3 ∧ i = .int .i64 k ∧ Hid (NB wr Mk N0 (N0 + 1) (N0 + 1 + 1) M k N S cp aom MB) ∧ Hid (Below w.heap.size w wr)) (fun i _ => 3 - (intOf i).toNat)
    case atStart => exact ⟨0, _, _, _, _, _, Nat.zero_le _, rfl, HST, HBL⟩
    case round =>
      obtain ⟨k, N, S, cp, aom, MB, hk, rfl, HR, HW⟩ := hrel
      by_cases hlt : k < 3
      · clear hT
        have hi0' : (0 : Int) ≤ (k : Int) := Int.natCast_nonneg _
        have hi1 : (k : Int) < 3 := by omega
        have cm := HR.out.masks k hlt
        have lM : Mk < wr.heap.size := World.block_lt_of_cell? wr _ cm
        obtain ⟨m, hm⟩ : ∃ m, m = M k % 16 := ⟨_, rfl⟩
        have hm16 : m < 16 := by omega
        have hme : ((M k : Nat) : Int) % 16 = (m : Int) := by omega
        have hM0 := hM k
        have HM16 := hid hm
        clear hm
        have hst2 := M2.start (P := N0 + 1) (m := m) (rfl : wr.heap.size = wr.heap.size) #[.slice none 0 0, .slice none 0 0, .int .i64 0]
        have HST2 := hid hst2
        clear hst2
        have hbw2 : Below w.heap.size w ((wr.alloc (.cells #[.slice none 0 0, .slice none 0 0, .int .i64 0] 36)).alloc (.cells #[.pointer none, .iface 32 (.pointer (some ⟨wr.heap.size, 0, none⟩)), .slice none 0 0] 42)) := (HW.out.alloc HW.out.size _).alloc (by have := HW.out.size; simp; omega) _
        have HBW2 := hid hbw2
        clear hbw2
        go_wp2
        obtain ⟨W4, hW4⟩ : ∃ W4, W4 = ((wr.alloc (.cells #[.slice none 0 0, .slice none 0 0, .int .i64 0] 36)).alloc (.cells #[.pointer none, .iface 32 (.pointer (some ⟨wr.heap.size, 0, none⟩)), .slice none 0 0] 42)) := ⟨_, rfl⟩
        rw [← hW4] at HST2 HBW2 ⊢
        have HW4 := hid hW4
        clear hW4
        obtain ⟨Z, hZ⟩ : ∃ Z, Z = wr.heap.size := ⟨_, rfl⟩
        rw [← hZ] at HST2 ⊢
        have HZ := hid hZ
        have HNM : Hid (∀ wx, Fr (· = Z + 1) W4 wx → ∀ j, j < 4 → wx.cell? ⟨N0, j, none⟩ = some (.string (nmB j))) := by
          intro wx hf j hj
          have h1 := HR.out.names j hj
          have h2 : N0 < wr.heap.size := World.block_lt_of_cell? wr _ h1
          rw [hf.cell (p := ⟨N0, j, none⟩) (by rw [HW4.out]; simp; omega) (by show ¬ N0 = Z + 1; omega), HW4.out, World.cell?_alloc_past _ _ _ (by simp; omega), World.cell?_alloc_past _ _ _ h2]
          exact h1
        have HSZ4 : Hid (W4.heap.size = Z + 1 + 1) := by show _ = _; rw [HW4.out, hZ]; simp
        have HAR : Hid (∀ wx, Fr (· = Z + 1) W4 wx → wx.cell? ⟨N0 + 1 + 1, k, none⟩ = some (.pointer none) ∧ wx.frozen? ⟨N0 + 1 + 1, k, none⟩ = false) := by
          intro wx hf
          have lA := HR.out.arr.lt
          have hb : wx.heap[N0 + 1 + 1]? = wr.heap[N0 + 1 + 1]? := by
            rw [hf.block (N0 + 1 + 1) (by rw [HW4.out]; simp; omega) (by omega), HW4.out, heap_alloc_old _ _ (by simp; omega), heap_alloc_old _ _ lA]
          have hr := HR.out.arr.of_block hb
          refine ⟨?_, hr.frozen k⟩
          have := hr.cell hlt
          simpa using this
        clear hZ
        go_loopw [17] (fun i wx => ∃ (j : Nat) (aj : Option Addr) (cj : Nat) (F : Nat → Nat), j ≤ 4 ∧ i = .int .i64 j ∧ Hid (M2 W4 wx (N0 + 1) (Z + 1) Z m j aj cj F)) (fun i _ => 4 - (intOf i).toNat)
        case atStart => exact ⟨0, _, _, _, Nat.zero_le _, rfl, HST2⟩
        case round =>
          obtain ⟨j, aj, cj, F, hj, rfl, HX⟩ := hrel
          by_cases hj4 : j < 4
          · have hj0' : (0 : Int) ≤ (j : Int) := Int.natCast_nonneg _
            have hj1 : (j : Int) < 4 := by omega
            have hand := and_one m hm16 j hj4
            have HX2 := HX.out
            have cnb2 := cell_of_row wr (Z + 1) 2 _ _ _ HX2.blk
            have fnb2 := frozen_of_row wr (Z + 1) 2 _ _ HX2.blk
            have lnb := lt_of_block HX2.blk
            have cnm : wr.cell? ⟨N0, j, none⟩ = some (.string (nmB j)) := HNM.out wr HX2.fr j hj4
            have lN0 : N0 < wr.heap.size := World.block_lt_of_cell? wr _ cnm
            simp at cnb2
            by_cases hbit : m / 2 ^ j % 2 = 1
            · rw [hbit] at hand
              have HBIT := hid hbit
              have HO := hid HX2.own
              have HLE := hid (bl_len m j)
              obtain ⟨L, hL⟩ : ∃ L, L = (bl m j).length := ⟨_, rfl⟩
              rw [← hL] at cnb2 HO HLE
              have HNL := hid hL
              have HNW : Hid (∀ i u, [Value.pointer (some ⟨wr.heap.size, 0, none⟩)][i]? = some u → ((wr.alloc (.cells #[.string (nmB j), .nilIface, .pointer none, .int .i32 0, .int .i32 0, .pointer (some ⟨N0 + 1, 0, none⟩), .bool false] 51)).alloc (.cells #[.pointer (some ⟨wr.heap.size, 0, none⟩)] 44)).drew.cell? ((⟨wr.heap.size + 1, 0, none⟩ : Addr).add i) = some u) := by
                have h1 := heap_alloc2_new wr (.cells #[.string (nmB j), .nilIface, .pointer none, .int .i32 0, .int .i32 0, .pointer (some ⟨N0 + 1, 0, none⟩), .bool false] 51) (.cells #[.pointer (some ⟨wr.heap.size, 0, none⟩)] 44)
                exact World.news_of_block (w := ((wr.alloc (.cells #[.string (nmB j), .nilIface, .pointer none, .int .i32 0, .int .i32 0, .pointer (some ⟨N0 + 1, 0, none⟩), .bool false] 51)).alloc (.cells #[.pointer (some ⟨wr.heap.size, 0, none⟩)] 44)).drew) (cs := #[.pointer (some ⟨wr.heap.size, 0, none⟩)]) h1
              have HO3 : Hid (((wr.alloc (.cells #[.string (nmB j), .nilIface, .pointer none, .int .i32 0, .int .i32 0, .pointer (some ⟨N0 + 1, 0, none⟩), .bool false] 51)).alloc (.cells #[.pointer (some ⟨wr.heap.size, 0, none⟩)] 44)).drew.ownsRow (Z + 1 + 1) 44 1 (.slice aj L cj) L (ptrs F L)) := (((HO.out.alloc _).alloc _).drew)
              have H1C : Hid (∀ u ∈ [Value.pointer (some ⟨wr.heap.size, 0, none⟩)], u.oneCell' = true) := by intro u hu; simp at hu; subst hu; rfl
              have HB1 : Hid (L + 1 ≤ maxLen) := by have := HLE.out; show L + 1 ≤ maxLen; unfold maxLen; omega
              have HB2 : Hid ((L + 1) * 8 ≤ 140737488355328) := by have := HLE.out; show (L + 1) * 8 ≤ _; omega
              have HB3 : Hid (Z + 1 + 1 ≤ ((wr.alloc (.cells #[.string (nmB j), .nilIface, .pointer none, .int .i32 0, .int .i32 0, .pointer (some ⟨N0 + 1, 0, none⟩), .bool false] 51)).alloc (.cells #[.pointer (some ⟨wr.heap.size, 0, none⟩)] 44)).drew.heap.size) := by show Z + 1 + 1 ≤ ((wr.alloc (.cells #[.string (nmB j), .nilIface, .pointer none, .int .i32 0, .int .i32 0, .pointer (some ⟨N0 + 1, 0, none⟩), .bool false] 51)).alloc (.cells #[.pointer (some ⟨wr.heap.size, 0, none⟩)] 44)).heap.size; simp; omega
              have HSZ : Hid (((wr.alloc (.cells #[.string (nmB j), .nilIface, .pointer none, .int .i32 0, .int .i32 0, .pointer (some ⟨N0 + 1, 0, none⟩), .bool false] 51)).alloc (.cells #[.pointer (some ⟨wr.heap.size, 0, none⟩)] 44)).drew.heap.size = wr.heap.size + 1 + 1) := by show ((wr.alloc (.cells #[.string (nmB j), .nilIface, .pointer none, .int .i32 0, .int .i32 0, .pointer (some ⟨N0 + 1, 0, none⟩), .bool false] 51)).alloc (.cells #[.pointer (some ⟨wr.heap.size, 0, none⟩)] 44)).heap.size = _; simp
              have cnb3 : ((wr.alloc (.cells #[.string (nmB j), .nilIface, .pointer none, .int .i32 0, .int .i32 0, .pointer (some ⟨N0 + 1, 0, none⟩), .bool false] 51)).alloc (.cells #[.pointer (some ⟨wr.heap.size, 0, none⟩)] 44)).cell? ⟨Z + 1, 2, none⟩ = some (.slice aj L cj) := by
                rw [World.cell?_alloc_past _ _ _ (by simp; omega), World.cell?_alloc_past _ _ _ (by exact lnb)]; exact cnb2
              have cnb4 : (wr.alloc (.cells #[.string (nmB j), .nilIface, .pointer none, .int .i32 0, .int .i32 0, .pointer (some ⟨N0 + 1, 0, none⟩), .bool false] 51)).cell? ⟨Z + 1, 2, none⟩ = some (.slice aj L cj) := by
                rw [World.cell?_alloc_past _ _ _ (by exact lnb)]; exact cnb2
              clear hbit hL HX2
              go_wp2_with fail
              go_region_law (refine step_append_lies _ rfl (.tmp 85) (.tmp 93) 40 rfl (Z + 1 + 1) 44 i0 (.pointer none) 1 8 Yba.underlying40 HI.out HZ0.out HZ1.out HZ2.out rfl Nat.one_pos (.slice aj L cj) L (ptrs F L) rfl HO3.out ⟨wr.heap.size + 1, 0, none⟩ 1 1 [.pointer (some ⟨wr.heap.size, 0, none⟩)] rfl rfl HNW.out H1C.out Nat.one_pos HB1.out HB2.out HB3.out (wr.heap.size + 1 + 1) HSZ.out ?_; intro g' cp' W5 hown5 hgrow hat5 hlt5; have hnb5 := HX.out.keep (HNL.out ▸ hgrow); have cn5 := cell_of_row W5 (Z + 1) 2 _ _ _ hnb5; have fn5 := frozen_of_row W5 (Z + 1) 2 _ _ hnb5; simp at cn5; have HOW5 := hid hown5; have HGR5 := hid hgrow; clear hown5 hgrow hat5 hlt5 hnb5)
              all_goals
                clear HNW HO3 H1C HB1 HB2 HB3 HSZ
                go_wp2
                go_roundw
                case rel =>
                  have hL := HNL.out
                  subst hL
                  exact ⟨j + 1, _, _, _, by omega, by go_num, HX.out.hit HBIT.out HSZ4.out rfl rfl HOW5.out HGR5.out⟩
                case measure => simp [intOf]; omega
            · have h0 : m / 2 ^ j % 2 = 0 := by omega
              rw [h0] at hand
              have HBIT := hid hbit
              clear hbit h0 HX2
              go_wp2
              go_roundw
              case rel => exact ⟨j + 1, _, _, _, by omega, by go_num, HX.out.skip HBIT.out⟩
              case measure => simp [intOf]; omega
          · have e : j = 4 := by omega
            subst e
            obtain ⟨cA, fA⟩ := HAR.out wr HX.out.fr
            go_wp2
            go_roundw
            case rel =>
              have hm := HM16.out
              subst hm
              have hz := HZ.out
              have h4 := HW4.out
              have h6 : Below w.heap.size w wr := HBW2.out.trans (HX.out.fr.to_below (B := w.heap.size) HBW2.out.size (fun b hb => by have := HW.out.size; omega))
              refine ⟨k + 1, _, _, _, _, _, by omega, by go_num, hz ▸ HR.out.step hlt (c := #[.slice none 0 0, .slice none 0 0, .int .i64 0]) rfl (h4 ▸ hz ▸ HX.out), h6.setCell ?_ _⟩
              have := HLA.out
              show w.heap.size ≤ N0 + 1 + 1
              omega
            case measure => simp [intOf]; omega
      · have e : k = 3 := by omega
        subst e
        clear HST HBL
        have hvst := VB.start wr (N0 + 1) n (fun i => A0 i % 4) (fun i => A1 i % 3) (fun i => A2 i % 3) N
        have hbw5 : Below w.heap.size w (wr.alloc (.cells (madeCells #[.pointer none] n) 54)) := HW.out.alloc HW.out.size _
        have hbr5 : Below wr.heap.size wr (wr.alloc (.cells (madeCells #[.pointer none] n) 54)) := (Below.refl _ wr).alloc (Nat.le_refl _) _
        have HVST := hid hvst
        have HBW5 := hid hbw5
        have HBR5 := hid hbr5
        clear hvst hbw5 hbr5
        go_wp2_with fail
        obtain ⟨L, hL⟩ : ∃ L, L = wr.heap.size := ⟨_, rfl⟩
        obtain ⟨W5, hW5⟩ : ∃ W5, W5 = wr.alloc (.cells (madeCells #[.pointer none] n) 54) := ⟨_, rfl⟩
        rw [← hW5] at HVST HBW5 HBR5 ⊢
        rw [← hL] at HVST HBR5 ⊢
        have HL := hid hL
        have HBR5' : Hid (L ≤ W5.heap.size) := by rw [Hid, hW5, hL]; simp
        clear hL hW5 hmk
        have HBR : Hid (∀ w3, Fr (· = L) W5 w3 → Below L wr w3) := fun w3 hf => HBR5.out.trans (hf.to_below (B := L) HBR5'.out (fun b hb => by omega))
        have HLW : Hid (w.heap.size ≤ L) := by have := HW.out.size; rw [Hid, HL.out]; exact this
        go_loopw [105] (fun i w3 => ∃ (k : Nat) (V : Nat → Nat), k ≤ n ∧ i = .int .i64 k ∧ Hid (VB W5 w3 L (N0 + 1) n k V (fun i => A0 i % 4) (fun i => A1 i % 3) (fun i => A2 i % 3) N)) (fun i _ => n - (intOf i).toNat)
        case atStart => exact ⟨0, _, Nat.zero_le _, rfl, HVST⟩
        case round =>
          obtain ⟨k, V, hk', rfl, HV⟩ := hrel
          by_cases hlt3 : k < n
          · clear hT
            obtain ⟨b, off, rfl, hb, hbc⟩ := HFL.out (by omega)
            obtain ⟨f0, f1, f2, g0, g1, g2⟩ := hbc k hlt3
            have HBx := hid (HBR.out wr HV.out.fr)
            have hbx : Below w.heap.size w wr := HBW5.out.trans (HV.out.fr.to_below (B := w.heap.size) HBW5.out.size (fun b hb => by have := HLW.out; omega))
            have z0 := (hbx.cell (p := ⟨b, off + k * 3, none⟩) hb).trans f0
            have z1 := (hbx.cell (p := ⟨b, off + k * 3 + 1, none⟩) hb).trans f1
            have z2 := (hbx.cell (p := ⟨b, off + k * 3 + 2, none⟩) hb).trans f2
            have lb : b < wr.heap.size := World.block_lt_of_cell? wr _ z0
            obtain ⟨m, hm⟩ : ∃ m, m = A0 k % 4 := ⟨_, rfl⟩
            obtain ⟨t, ht⟩ : ∃ t, t = A2 k % 3 := ⟨_, rfl⟩
            have hm4 : m < 4 := by omega
            have ht3 : t < 3 := by omega
            have hme : ((A0 k : Nat) : Int) % 4 = (m : Int) := by omega
            have hte : ((A2 k : Nat) : Int) % 3 = (t : Int) := by omega
            have lnN : N0 < L := by rw [HL.out]; exact World.block_lt_of_cell? _ _ (HR.out.names 0 (by omega))
            have lA : N0 + 1 + 1 < L := by rw [HL.out]; exact HR.out.arr.lt
            have cnm := (HBx.out.cell (p := ⟨N0, m, none⟩) lnN).trans (HR.out.names m hm4)
            have carr := (HBx.out.cell (p := ⟨N0 + 1 + 1, t, none⟩) lA).trans (HR.out.arr.cell ht3)
            simp [ht3] at carr
            have lLr : L < wr.heap.size := HV.out.row.lt
            have lN0r : N0 < wr.heap.size := by omega
            have lAr : N0 + 1 + 1 < wr.heap.size := by omega
            have cL := HV.out.row.cell hlt3
            have fL := HV.out.row.frozen k
            simp at cL
            have carr2 : ∀ o1 o2, ((wr.alloc o1).alloc o2).cell? ⟨N0 + 1 + 1, t, none⟩ = some (.pointer (some ⟨N t, 0, none⟩)) := fun o1 o2 => by
              rw [World.cell?_alloc_past _ _ _ (by simp; omega), World.cell?_alloc_past _ _ _ (by exact lAr)]; exact carr
            have hk0' : (0 : Int) ≤ (k : Int) := Int.natCast_nonneg _
            have hk1 : (k : Int) < (n : Int) := by omega
            have HMM := hid hm
            have HTT := hid ht
            clear hbx f0 f1 f2 hbc hm ht
            rcases (show A1 k % 3 = 0 ∨ A1 k % 3 = 1 ∨ A1 k % 3 = 2 by omega) with h3 | h3 | h3
            · have hke : ((A1 k : Nat) : Int) % 3 = 0 := by omega
              have H3 := hid h3
              clear h3
              go_wp2
              go_roundw
              case rel => exact ⟨k + 1, _, by omega, by go_num, HV.out.step2 HMM.out.symm (by simp [H3.out]) (fun h => by have := H3.out; omega) (by have := H3.out; omega)⟩
              case measure => simp [intOf]; omega
            · have hke : ((A1 k : Nat) : Int) % 3 = 1 := by omega
              have H3 := hid h3
              clear h3
              go_wp2
              go_roundw
              case rel => exact ⟨k + 1, _, by omega, by go_num, HV.out.step2 HMM.out.symm (by simp [H3.out]) (fun _ => by rw [HTT.out]) (by have := H3.out; omega)⟩
              case measure => simp [intOf]; omega
            · have hke : ((A1 k : Nat) : Int) % 3 = 2 := by omega
              have cL3 : ∀ o1 o2 o3, (((wr.alloc o1).alloc o2).alloc o3).cell? ⟨L, k, none⟩ = some (.pointer none) := fun o1 o2 o3 => by
                rw [World.cell?_alloc_past _ _ _ (by simp; omega), World.cell?_alloc_past _ _ _ (by simp; omega), World.cell?_alloc_past _ _ _ (by exact lLr)]; exact cL
              have fL3 : ∀ o1 o2 o3, (((wr.alloc o1).alloc o2).alloc o3).frozen? ⟨L, k, none⟩ = false := fun o1 o2 o3 => by
                rw [World.frozen?_of_block (w := wr) (w' := ((wr.alloc o1).alloc o2).alloc o3) (a := ⟨L, k, none⟩) (by show (((wr.alloc o1).alloc o2).alloc o3).heap[L]? = wr.heap[L]?; rw [heap_alloc_old _ _ (by simp; omega), heap_alloc_old _ _ (by simp; omega), heap_alloc_old _ _ lLr])]
                exact fL
              have H3 := hid h3
              clear h3
              go_wp2
              go_roundw
              case rel => exact ⟨k + 1, _, by omega, by go_num, HV.out.step3 HMM.out.symm HTT.out.symm H3.out⟩
              case measure => simp [intOf]; omega
          · have e : k = n := by omega
            subst e
            have hbx : Below w.heap.size w wr := HBW5.out.trans (HV.out.fr.to_below (B := w.heap.size) HBW5.out.size (fun b hb => by have := HLW.out; omega))
            have hnx : Below L _ wr := HBR.out wr HV.out.fr
            rw [HL.out] at hnx
            obtain ⟨m, hm⟩ : ∃ m, m = sel % 4 := ⟨_, rfl⟩
            have hm4 : m < 4 := by omega
            have hme : ((sel : Nat) : Int) % 4 = (m : Int) := by omega
            have hb7 : Below wr.heap.size wr (wr.alloc (.cells #[.slice (some ⟨L, 0, none⟩) k k, .slice none 0 0, .int .i64 0] 36)) := (Below.refl _ _).alloc (Nat.le_refl _) _
            have hNm := fun t (ht : t < 3) => ((HR.out.nmd t ht).1.below hnx).below hb7
            have hlook := look_struct wr.heap.size L k (N0 + 1) m ind use V (fun i => A0 i % 4) (fun i => A1 i % 3) (fun i => A2 i % 3) N S (fun t => (bl (M t % 16) 4).length) cp aom MB (fun t i => (bl (M t % 16) 4).getD i 0) (fun t => miF (M t % 16) m use)
              (wr.alloc (.cells #[.slice (some ⟨L, 0, none⟩) k k, .slice none 0 0, .int .i64 0] 36)) hn hm4 (by rw [World.cell?_alloc_at _ _ _ _ rfl]; rfl)
              (fun i hi => (HV.out.fields (fun i => by omega) (fun i => by omega) i hi).below hb7 (Nat.le_refl _)) hNm (fun t ht => hit_mi _ _ _ (by omega) hm4) (fun i => by omega) (fun i j hi hj e => HR.out.inj i j hi hj e)
            have cnm := (hnx.cell (p := ⟨N0, m, none⟩) (World.block_lt_of_cell? _ _ (HR.out.names m hm4))).trans (HR.out.names m hm4)
            have HLK := hid hlook
            have HBX := hid hbx
            have HNX := hid hnx
            have HMM := hid hm
            clear hbx hnx hb7 hNm hlook hm HVST HBW5 HBR5 HBR5' HBR
            obtain ⟨pk, hpk⟩ : ∃ pk : Option Addr, pk = if use then some ⟨N0 + 1, 0, none⟩ else none := ⟨_, rfl⟩
            rw [← hpk] at HLK
            have HPK := hid hpk
            clear hpk
            go_upto_if 154 with fail
            go_cut [24] from 154 to 155 (fun v wx => v = .pointer pk ∧ wx = wr)
            case first =>
              cases use
              · have hp := HPK.out
                simp at hp
                go_wp2_with fail
                go_meet
                exact ⟨by rw [hp], rfl⟩
              · have hp := HPK.out
                simp at hp
                go_wp2_with fail
                go_meet
                exact ⟨by rw [hp], rfl⟩
            case rest =>
              obtain ⟨rfl, rfl⟩ := hcut
              go_upto_region 36 with fail
              have hsz := nmB_size m
              have h65 := nmB_ge65 m
              go_cut [27] from 154 to 172 (fun v wx => v = .bool (vis m use) ∧ wx = wc)
              case first =>
                cases use
                · go_wp2_with fail
                  go_meet
                  exact ⟨congrArg Value.bool (nmB_vis m _), rfl⟩
                · go_wp2_with fail
                  go_meet
                  exact ⟨rfl, rfl⟩
              case rest =>
                obtain ⟨rfl, rfl⟩ := hcut
                clear hsz h65
                go_wp2_with (go_at_call 6; refine HLK.out.mono ?_; intro e W8 hout; obtain ⟨obj, ix, ib, rfl, HOUT⟩ := hout.tuple; clear hout)
                have hb8 : Below w.heap.size w W8 := HBX.out.trans ((((Below.refl _ wc).alloc (Nat.le_refl _) _).trans (HOUT.out.2.mono (by simp))).mono HBX.out.size)
                have HB8 := hid hb8
                have HB78 := hid HOUT.out.2
                clear hb8 HLK cnm
                have HVR : Hid (∀ wx, Below W8.heap.size W8 wx → ∀ j, j < k → wx.cell? ⟨L, j, none⟩ = some (.pointer (some ⟨V j, 0, none⟩))) := by
                  intro wx hx j hj
                  have h1 := HV.out.row.cell hj
                  simp [hj] at h1
                  have l1 := World.block_lt_of_cell? wc _ h1
                  have h2 := (HB78.out.cell (p := ⟨L, j, none⟩) (by simp; exact Nat.lt_succ_of_lt l1)).trans ((World.cell?_alloc_past _ _ _ l1).trans h1)
                  exact (hx.cell (p := ⟨L, j, none⟩) (World.block_lt_of_cell? W8 _ h2)).trans h2
                obtain ⟨vb, hvb⟩ : ∃ vb, vb = vis m use := ⟨_, rfl⟩
                rw [← hvb]
                have HSM : Hid (∀ i, sameB (A0 i % 4) m use = (decide (A0 i % 4 = m) && vb)) := fun i => by rw [hvb]; exact sm_eq _ _ _
                have HVB := hid hvb
                clear hvb
                go_loopw [31, 32, 187] (fun c l i wr => ∃ p : Nat, p ≤ k ∧ i = .int .i64 p ∧ c = .int .i64 (cntF (fun i => sameB (A0 i % 4) m use) p : Nat) ∧ l = .int .i64 (lastI (fun i => sameB (A0 i % 4) m use) p) ∧ Hid (Below W8.heap.size W8 wr)) (fun _ _ i _ => k - (intOf i).toNat)
                case atStart => exact ⟨0, Nat.zero_le _, rfl, rfl, rfl, Below.refl _ _⟩
                case round =>
                  obtain ⟨p, hp, rfl, rfl, rfl, HW9⟩ := hrel
                  by_cases hpk : p < k
                  · clear hT
                    obtain ⟨b, off, rfl, hb, hbc⟩ := HFL.out (by omega)
                    obtain ⟨f0, f1, f2, g0, g1, g2⟩ := hbc p hpk
                    have hbx : Below w.heap.size w wr := HB8.out.trans (HW9.out.mono HB8.out.size)
                    have z0 := (hbx.cell (p := ⟨b, off + p * 3, none⟩) hb).trans f0
                    have z1 := (hbx.cell (p := ⟨b, off + p * 3 + 1, none⟩) hb).trans f1
                    have z2 := (hbx.cell (p := ⟨b, off + p * 3 + 2, none⟩) hb).trans f2
                    have lb : b < wr.heap.size := World.block_lt_of_cell? wr _ z0
                    have hp0' : (0 : Int) ≤ (p : Int) := Int.natCast_nonneg _
                    have hp1 : (p : Int) < (k : Int) := by omega
                    have hsm := HSM.out p
                    have hcl := cntF_le (fun i => sameB (A0 i % 4) m use) p
                    have e1 := cntF_one (fun i => sameB (A0 i % 4) m use) p
                    have e2 := lastI_one (fun i => sameB (A0 i % 4) m use) p
                    obtain ⟨cc, hcc⟩ : ∃ cc, cc = cntF (fun i => sameB (A0 i % 4) m use) p := ⟨_, rfl⟩
                    obtain ⟨ll, hll⟩ : ∃ ll, ll = lastI (fun i => sameB (A0 i % 4) m use) p := ⟨_, rfl⟩
                    rw [← hcc] at hcl e1 ⊢
                    rw [← hll] at e2 ⊢
                    have hbw := HW9.out.alloc HW9.out.size (.cells #[.int .u8 (A0 p), .int .u8 (A1 p), .int .u8 (A2 p)] 53)
                    have HBW := hid hbw
                    have E1 := hid e1
                    have E2 := hid e2
                    clear hbx f0 f1 f2 hbc hcc hll hbw e1 e2
                    cases vb
                    · simp only [Bool.and_false] at hsm
                      have HS := hid hsm
                      clear hsm
                      go_wp2
                      go_roundw
                      case rel => exact ⟨p + 1, by omega, by go_num, by rw [E1.out]; simp [HS.out], by rw [E2.out]; simp [HS.out], HBW.out⟩
                      case measure => simp [intOf]; omega
                    · by_cases hnm : A0 p % 4 = m
                      · have hne : ((A0 p : Nat) : Int) % 4 = (m : Int) := by omega
                        have HS : Hid (sameB (A0 p % 4) m use = true) := by rw [Hid, hsm]; simp [hnm]
                        clear hsm hnm
                        go_wp2
                        go_roundw
                        case rel => exact ⟨p + 1, by omega, by go_num, by rw [E1.out]; simp [HS.out], by rw [E2.out]; simp [HS.out], HBW.out⟩
                        case measure => simp [intOf]; omega
                      · have hne : (((A0 p : Nat) : Int) % 4 == (m : Int)) = false := by simp; omega
                        have HS : Hid (sameB (A0 p % 4) m use = false) := by rw [Hid, hsm]; simp [hnm]
                        clear hsm hnm
                        go_wp2
                        go_roundw
                        case rel => exact ⟨p + 1, by omega, by go_num, by rw [E1.out]; simp [HS.out], by rw [E2.out]; simp [HS.out], HBW.out⟩
                        case measure => simp [intOf]; omega
                  · have e : p = k := by omega
                    subst e
                    have HC8 := hid (fun (q : Addr) (v : Value) (h : W8.cell? q = some v) => (HW9.out.cell (p := q) (World.block_lt_of_cell? W8 _ h)).trans h)
                    have hcl := cntF_le (fun i => sameB (A0 i % 4) m use) p
                    obtain ⟨cc, hcc⟩ : ∃ cc, cc = cntF (fun i => sameB (A0 i % 4) m use) p := ⟨_, rfl⟩
                    have HLP := hid (lastI_pos (fun i => sameB (A0 i % 4) m use) p)
                    obtain ⟨la, hla⟩ : ∃ la, la = lastF (fun i => sameB (A0 i % 4) m use) p := ⟨_, rfl⟩
                    rw [← hcc] at hcl HLP HOUT ⊢
                    rw [← hla] at HLP HOUT
                    have HCC := hid hcc
                    have HLL := hid hla
                    clear hcc hla
                    have hbx : Below w.heap.size w wr := HB8.out.trans (HW9.out.mono HB8.out.size)
                    have HBF := hid hbx
                    clear hbx
                    have hq1 := eql61_54
                    by_cases hpos : 0 < cc
                    · clear hT
                      rcases HOUT.out.1 with ⟨_, g, heq, hcg⟩ | ⟨hz, _⟩ | ⟨hz, _⟩
                      · obtain ⟨hl, hlt'⟩ := HLP.out hpos
                        rw [hl]
                        have cg := HC8.out _ _ hcg
                        have lg := World.block_lt_of_cell? wr _ cg
                        have hEQ := eq_one g wr la cg
                        have HEQ := hid hEQ
                        clear hl hcg hEQ HLP
                        by_cases h1 : 1 < cc
                        · simp [h1] at heq
                          obtain ⟨rfl, rfl, rfl⟩ := heq
                          have h1' : (1 : Int) < (cc : Int) := by omega
                          clear HOUT HC8
                          go_wp2_with (go_at_call 7; refine HEQ.out.mono ?_; rintro e W10 ⟨rfl, nd, rfl⟩)
                          go_ret
                          exact ⟨rfl, below_drewN (HBF.out.alloc HBF.out.size _) _⟩
                        · have h1c : cc = 1 := by omega
                          subst h1c
                          simp at heq
                          obtain ⟨rfl, rfl, rfl⟩ := heq
                          have hV := HVR.out wr HW9.out la hlt'
                          have hla0 : (0 : Int) ≤ (la : Int) := Int.natCast_nonneg _
                          have hla1 : (la : Int) < (p : Int) := by omega
                          clear HOUT HC8
                          go_wp2_with (go_at_call 7; refine HEQ.out.mono ?_; rintro e W10 ⟨rfl, nd, rfl⟩)
                          go_ret
                          exact ⟨rfl, below_drewN (HBF.out.alloc HBF.out.size _) _⟩
                      · omega
                      · omega
                    · rename_i k4 wr0 k3 k2 k1 ua ub Kq aq h512 q1 a1 q0 a0
                      clear a1 a0 q1 q0
                      clear HI HZ0 HZ1 HZ2
                      clear i0
                      revert ao cap sel M A0 A1 A2 use ind w hsel hM W1 k4 W2 N0 HN1 HLA Mk HMk wr0 u15 u16 u17 u58 u59 u60 u61 u62 u63 u64 u65 u66 u67 u68 u69 u70 u71 u72 u73 u74 u75 u76 u77 u78 u79 u80 u81 u82 u83 u84 u85 u86 u87 u88 u89 u90 u91 u92 u93 u94 u95 u96 u97 u98 u99 N S cp aom MB HW HR k3 k2 L W5 HL HLW u19 u20 u21 u22 u23 u106 u107 u108 u109 u110 u111 u112 u113 u114 u115 u116 u117 u118 u119 u120 u121 u122 u123 u124 u125 u126 u127 u128 u129 u130 u131 u132 u133 u134 u135 u136 u137 u138 u139 u140 u141 u142 u143 u144 u145 u146 u147 u148 u149 u150 u151 u152 u153 V m hm4 hme HMM pk HPK k1 ua ub wc u154 u155 u156 u157 u158 u159 u160 u161 u162 u163 u164 u165 u166 u167 u168 u169 u170 u171 u172 HBX HNX W8 obj ix ib Kq aq HB8 vb HSM HVB wr u33 u34 u188 u189 u190 u191 u192 u193 u194 u195 u196 u197 u198 u199 u200 u201 u202 u203 u204 p HW9 hn HFL h512 HV HB78 HVR HC8 cc hcl la HOUT HLP HCC HLL HBF hq1 hpos
                      exact hT.out
end Go.Proofs.Ybulkhuy
