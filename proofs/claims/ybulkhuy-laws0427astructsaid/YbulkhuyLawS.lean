/-
  Walk of LawS0427AStruct (function 3).
-/
import Derived.Test.YbulkhuyS0
import Derived.Test.YbulkhuyLookS
import Derived.Deep.RegionLaw
import Derived.Deep.AppendLies
import Derived.Deep.CutRange
namespace Go.Proofs.Ybulkhuy
open Go.RowKit
def LawOut (w : World) (e : Ending) (w' : World) : Prop := e = .returned (.bool true) ∧ Below w.heap.size w w'

theorem NB.start (W1 : World) (M : Nat → Nat) (Mk : Nat) (hMk : ∀ t, t < 3 → W1.cell? ⟨Mk, t, none⟩ = some (.int .u8 (M t))) :
    NB (((W1.alloc (.cells #[.string ⟨#[65]⟩, .string ⟨#[66]⟩, .string ⟨#[99]⟩, .string ⟨#[100]⟩] 24)).alloc (.cells #[.string ⟨#[112]⟩, .string ⟨#[112]⟩, .pointer none] 29)).alloc (.cells #[.pointer none, .pointer none, .pointer none] 31))
      Mk W1.heap.size (W1.heap.size + 1) (W1.heap.size + 1 + 1) M 0 (fun _ => 0) (fun _ => 0) (fun _ => 0) (fun _ => none) (fun _ _ => 0) := by
  have lM := World.block_lt_of_cell? W1 _ (hMk 0 (by omega))
  refine ⟨fun m hm => ?_, fun t ht => ?_, ?_, fun t ht => absurd ht (Nat.not_lt_zero _), fun i j hi => absurd hi (Nat.not_lt_zero _), by omega, by exact Nat.lt_of_lt_of_le lM (by omega)⟩
  · rw [World.cell?_alloc_past _ _ _ (by simp; omega), World.cell?_alloc_past _ _ _ (by simp), World.cell?_alloc_at _ _ _ _ rfl]
    match m, hm with
    | 0, _ | 1, _ | 2, _ | 3, _ => rfl
  · have l : Mk < W1.heap.size := lM
    rw [World.cell?_alloc_past _ _ _ (by simp; omega), World.cell?_alloc_past _ _ _ (by simp; omega), World.cell?_alloc_past _ _ _ l]; exact hMk t ht
  · have := World.rowIs_alloc ((W1.alloc (.cells #[.string ⟨#[65]⟩, .string ⟨#[66]⟩, .string ⟨#[99]⟩, .string ⟨#[100]⟩] 24)).alloc (.cells #[.string ⟨#[112]⟩, .string ⟨#[112]⟩, .pointer none] 29)) #[.pointer none, .pointer none, .pointer none] 31 (fun _ => .pointer none) (fun i hi => by
      match i, hi with
      | 0, _ | 1, _ | 2, _ => rfl)
    have es : ((W1.alloc (.cells #[.string ⟨#[65]⟩, .string ⟨#[66]⟩, .string ⟨#[99]⟩, .string ⟨#[100]⟩] 24)).alloc (.cells #[.string ⟨#[112]⟩, .string ⟨#[112]⟩, .pointer none] 29)).heap.size = W1.heap.size + 1 + 1 := by simp
    rw [es] at this
    exact this.congr (fun i _ => by simp)

/-- n fields that came in. -/
def Flds (w : World) (ao : Option Addr) (n : Nat) (A0 A1 A2 : Nat → Nat) : Prop :=
  0 < n → ∃ b off, ao = some ⟨b, off, none⟩ ∧ b < w.heap.size ∧ ∀ k, k < n → w.cell? ⟨b, off + k * 3, none⟩ = some (.int .u8 (A0 k)) ∧ w.cell? ⟨b, off + k * 3 + 1, none⟩ = some (.int .u8 (A1 k)) ∧ w.cell? ⟨b, off + k * 3 + 2, none⟩ = some (.int .u8 (A2 k)) ∧ A0 k ≤ 255 ∧ A1 k ≤ 255 ∧ A2 k ≤ 255

theorem Yba.info54s : (Yba.prog.info? 54).map (fun i => (i.zero, i.size, i.bytes)) = some (some (.pointer none), 1, 8) := by kernel_rfl

theorem nmB_size (m : Nat) : (nmB m).size = 1 := by
  match m with
  | 0 | 1 | 2 | _ + 3 => rfl
theorem nmB_ge65 (m : Nat) (h : 0 < (nmB m).size) : (65 : Int) ≤ (((nmB m)[0]'h).toNat : Int) := by
  revert h
  match m with
  | 0 => exact fun h => (by decide : (65 : Int) ≤ 65)
  | 1 => exact fun h => (by decide : (65 : Int) ≤ 66)
  | 2 => exact fun h => (by decide : (65 : Int) ≤ 99)
  | _ + 3 => exact fun h => (by decide : (65 : Int) ≤ 100)
theorem nmB_vis (m : Nat) (h : 0 < (nmB m).size) : decide ((((nmB m)[0]'h).toNat : Int) ≤ 90) = vis m false := by
  revert h
  match m with
  | 0 => exact fun h => (by decide : decide ((65 : Int) ≤ 90) = vis 0 false)
  | 1 => exact fun h => (by decide : decide ((66 : Int) ≤ 90) = vis 1 false)
  | 2 => exact fun h => (by decide : decide ((99 : Int) ≤ 90) = vis 2 false)
  | n + 3 =>
    have e : vis (n + 3) false = false := by simp [vis]
    rw [e]
    exact fun h => (by decide : decide ((100 : Int) ≤ 90) = false)
theorem sm_eq (i m : Nat) (use : Bool) : sameB i m use = (decide (i = m) && vis m use) := by
  unfold sameB vis
  rw [Bool.or_comm]
def lastI (sm : Nat → Bool) : Nat → Int
  | 0 => -1
  | i + 1 => if sm i then i else lastI sm i
theorem cntF_one (sm : Nat → Bool) (p : Nat) : cntF sm (p + 1) = cntF sm p + (if sm p then 1 else 0) := rfl
theorem lastI_one (sm : Nat → Bool) (p : Nat) : lastI sm (p + 1) = if sm p then (p : Int) else lastI sm p := rfl
theorem lastI_pos (sm : Nat → Bool) (p : Nat) (h : 0 < cntF sm p) : lastI sm p = (lastF sm p : Int) ∧ lastF sm p < p := by
  induction p with
  | zero => simp [cntF] at h
  | succ p ih =>
    simp only [cntF] at h
    cases hs : sm p
    · rw [hs] at h
      simp at h
      obtain ⟨h1, h2⟩ := ih h
      simp only [lastI, lastF, hs]
      exact ⟨h1, by simp; omega⟩
    · simp only [lastI, lastF, hs]
      exact ⟨by simp, by simp⟩
theorem Yba.info56s : (Yba.prog.info? 56).map (fun i => (i.zero.isSome, i.size)) = some (true, 9) := by kernel_rfl
theorem Yba.comp54 : (Yba.prog.info? 54).map (fun i => i.comparable) = some true := by kernel_rfl
theorem eql61_54 (a : Addr) (w : World) : (binOp .eql 61 (.iface 54 (.pointer (some a))) (.iface 54 (.pointer (some a)))).run Yba.prog w = .ok (.bool true) w := by
  obtain ⟨i, hi, hc⟩ := Option.map_eq_some_iff.1 Yba.comp54
  obtain ⟨j, hj, _⟩ := Option.map_eq_some_iff.1 Yba.info56s
  exact run_eql_iface_ptr_same w a Yba.underlying61 Yba.underlying54 hi hc hj
theorem eq_one (g : Nat) (wr : World) (la : Nat) (cg : wr.cell? ⟨g, 0, none⟩ = some (.int .i64 la)) :
    Calls Yba.prog 7 #[.slice (some ⟨g, 0, none⟩) 1 1, .slice (some ⟨wr.heap.size, 0, none⟩) 1 1] (wr.alloc (.cells #[.int .i64 la] 3)) fun e w' => e = .returned (.bool true) ∧ ∃ m, w' = (wr.alloc (.cells #[.int .i64 la] 3)).drewN m := by
  have lg := World.block_lt_of_cell? wr _ cg
  refine eq_any g wr.heap.size 1 1 1 (fun _ => (la : Int)) _ (by omega) (fun i hi => ?_) (fun i hi => ?_)
  · have e : i = 0 := by omega
    subst e
    rw [World.cell?_alloc_lt wr _ _ lg]; exact cg
  · have e : i = 0 := by omega
    subst e
    rw [World.cell?_alloc_at _ _ _ _ rfl]; rfl
/-- What the law wants of the second round, behind the fields counted so far. -/
def Want (wx : World) (st : Nat × Nat) (ind : Bool) (kd tg : Nat → Nat) (mi : Nat → Option Nat) (MB : Nat → Nat → Nat) (wv wi wb : Value) : Prop :=
  (st.1 = 0 ∧ wv = .nilIface ∧ wi = .slice none 0 0 ∧ wb = .bool false) ∨
  (0 < st.1 ∧ ∃ t g, mi (tg st.2) = some t ∧ wv = .iface 44 (.pointer (some ⟨MB (tg st.2) t, 0, none⟩)) ∧ wi = .slice (some ⟨g, 0, none⟩) 2 2 ∧ wb = .bool (ind || decide (kd st.2 = 2)) ∧
    wx.cell? ⟨g, 0, none⟩ = some (.int .i64 st.2) ∧ wx.cell? ⟨g, 1, none⟩ = some (.int .i64 t))
theorem Want.hit {wx : World} {st : Nat × Nat} {ind : Bool} {kd tg : Nat → Nat} {mi : Nat → Option Nat} {MB : Nat → Nat → Nat} {wv wi wb : Value} {c r t l g : Nat} (hst : st = (c, r)) (hc : 0 < c) (ht : t = tg r) (hm : mi t = some l)
    (hv : wv = .iface 44 (.pointer (some ⟨MB t l, 0, none⟩))) (hi : wi = .slice (some ⟨g, 0, none⟩) 2 2) (hb : wb = .bool (ind || decide (kd r = 2))) (h0 : wx.cell? ⟨g, 0, none⟩ = some (.int .i64 r)) (h1 : wx.cell? ⟨g, 1, none⟩ = some (.int .i64 l)) : Want wx st ind kd tg mi MB wv wi wb := by
  subst hst ht
  exact .inr ⟨hc, l, g, hm, hv, hi, hb, h0, h1⟩
theorem Want.below {wx wy : World} {st : Nat × Nat} {ind : Bool} {kd tg : Nat → Nat} {mi : Nat → Option Nat} {MB : Nat → Nat → Nat} {wv wi wb : Value} (h : Want wx st ind kd tg mi MB wv wi wb) (hb : Below wx.heap.size wx wy) : Want wy st ind kd tg mi MB wv wi wb := by
  rcases h with h | ⟨h0, t, g, h1, h2, h3, h4, h5, h6⟩
  · exact .inl h
  · exact .inr ⟨h0, t, g, h1, h2, h3, h4, (hb.cell (p := ⟨g, 0, none⟩) (World.block_lt_of_cell? wx _ h5)).trans h5, (hb.cell (p := ⟨g, 1, none⟩) (World.block_lt_of_cell? wx _ h6)).trans h6⟩
theorem eq_two (g g' : Nat) (wr : World) (a b : Nat) (c0 : wr.cell? ⟨g, 0, none⟩ = some (.int .i64 a)) (c1 : wr.cell? ⟨g, 1, none⟩ = some (.int .i64 b)) (d0 : wr.cell? ⟨g', 0, none⟩ = some (.int .i64 a)) (d1 : wr.cell? ⟨g', 1, none⟩ = some (.int .i64 b)) :
    Calls Yba.prog 7 #[.slice (some ⟨g, 0, none⟩) 2 2, .slice (some ⟨g', 0, none⟩) 2 2] wr fun e w' => e = .returned (.bool true) ∧ ∃ m, w' = wr.drewN m := by
  refine eq_any g g' 2 2 2 (fun k => if k = 0 then (a : Int) else (b : Int)) _ (by omega) (fun i hi => ?_) (fun i hi => ?_)
  · rcases (show i = 0 ∨ i = 1 by omega) with e | e
    · subst e; exact c0
    · subst e; exact c1
  · rcases (show i = 0 ∨ i = 1 by omega) with e | e
    · subst e; exact d0
    · subst e; exact d1
theorem Yba.info51 : (Yba.prog.info? 51).map (fun i => (i.zero.isSome, i.size)) = some (true, 7) := by kernel_rfl
theorem Yba.comp44 : (Yba.prog.info? 44).map (fun i => i.comparable) = some true := by kernel_rfl
theorem eql61_same (a : Addr) (w : World) : (binOp .eql 61 (.iface 44 (.pointer (some a))) (.iface 44 (.pointer (some a)))).run Yba.prog w = .ok (.bool true) w := by
  obtain ⟨i, hi, hc⟩ := Option.map_eq_some_iff.1 Yba.comp44
  obtain ⟨j, hj, _⟩ := Option.map_eq_some_iff.1 Yba.info51
  exact run_eql_iface_ptr_same w a Yba.underlying61 Yba.underlying44 hi hc hj
theorem vis_true (m : Nat) : vis m true = true := rfl

theorem OutS.tuple {w w' : World} {cnt last : Nat} {st : Nat × Nat} {ind : Bool} {V kd tg : Nat → Nat} {mi : Nat → Option Nat} {MB : Nat → Nat → Nat} {e : Ending} (h : OutS w cnt last st ind V kd tg mi MB e w') :
    ∃ obj ix ib, e = .returned (.tuple #[obj, ix, .bool ib]) ∧ Hid (OutS w cnt last st ind V kd tg mi MB (.returned (.tuple #[obj, ix, .bool ib])) w') := by
  rcases h.1 with ⟨_, g, rfl, _⟩ | ⟨_, _, t, g, _, rfl, _⟩ | ⟨_, _, rfl⟩
  · exact ⟨_, _, _, rfl, h⟩
  · exact ⟨_, _, _, rfl, h⟩
  · exact ⟨_, _, _, rfl, h⟩

set_option maxRecDepth 100000 in
set_option maxHeartbeats 8000000 in
theorem struct_any (ao : Option Addr) (n cap sel : Nat) (M A0 A1 A2 : Nat → Nat) (use ind : Bool) (w : World) (hn : n ≤ 512) (hsel : sel ≤ 255) (hM : ∀ k, M k ≤ 255) (hFl : Flds w ao n A0 A1 A2) :
    Calls Yba.prog 3 #[.slice ao n cap, .agg #[.int .u8 (M 0), .int .u8 (M 1), .int .u8 (M 2)], .int .u8 sel, .bool use, .bool ind] w (LawOut w) := by
  have hmk0 : ∀ t, t < 3 → (w.alloc (.cells #[.int .u8 (M 0), .int .u8 (M 1), .int .u8 (M 2)] 23)).cell? ⟨w.heap.size, t, none⟩ = some (.int .u8 (M t)) := fun t ht => by
    rw [World.cell?_alloc_at _ _ _ _ rfl]
    match t, ht with
    | 0, _ | 1, _ | 2, _ => rfl
  have HMK := hid hmk0
  clear hmk0
  have HFL := hid hFl
  clear hFl
  have hmk := run_make_row' (P := Yba.prog) 33 54 (.pointer none) 8 Yba.underlying33 Yba.info54s rfl .i64 .i64 n (by omega) (by omega)
  obtain ⟨i0, hi, hz0, hz1, hz2⟩ := info_parts Yba.info44s
  have HI := hid hi
  have HZ0 := hid hz0
  have HZ1 := hid hz1
  have HZ2 := hid hz2
  clear hi hz0 hz1 hz2
  go_enter Yba.func3, Yba.ntmps3
  go_wp2_with (go_at_call 5; refine (names_any _).mono ?_; rintro e W1 ⟨rfl, hb1⟩)
  have hst := NB.start W1 M w.heap.size (fun t ht => (hb1.cell (p := ⟨w.heap.size, t, none⟩) (by simp)).trans (HMK.out t ht))
  have hN1 := hb1.size
  have hbl : Below w.heap.size w (((W1.alloc (.cells #[.string ⟨#[65]⟩, .string ⟨#[66]⟩, .string ⟨#[99]⟩, .string ⟨#[100]⟩] 24)).alloc (.cells #[.string ⟨#[112]⟩, .string ⟨#[112]⟩, .pointer none] 29)).alloc (.cells #[.pointer none, .pointer none, .pointer none] 31)) := by
    have h1 : Below w.heap.size w W1 := ((Below.refl _ w).alloc (Nat.le_refl _) _).trans (hb1.mono (by simp))
    have h2 := h1.size
    exact ((h1.alloc h2 _).alloc (by simp; omega) _).alloc (by simp; omega) _
  generalize ((W1.alloc (.cells #[.string ⟨#[65]⟩, .string ⟨#[66]⟩, .string ⟨#[99]⟩, .string ⟨#[100]⟩] 24)).alloc (.cells #[.string ⟨#[112]⟩, .string ⟨#[112]⟩, .pointer none] 29)).alloc (.cells #[.pointer none, .pointer none, .pointer none] 31) = W2 at *
  clear hb1 HMK
  simp at hN1
  have HN1 := hid hN1
  have HST := hid hst
  have HBL := hid hbl
  clear hst hbl hN1
  generalize W1.heap.size = N0 at *
  have HLA : Hid (w.heap.size ≤ N0) := by have := HN1.out; show w.heap.size ≤ N0; omega
  obtain ⟨Mk, hMk⟩ : ∃ Mk, Mk = w.heap.size := ⟨_, rfl⟩
  rw [← hMk] at HST ⊢
  have HMk := hid hMk
  clear hMk
  go_loopw [14] (fun i wr => ∃ (k : Nat) (N S cp : Nat → Nat) (aom : Nat → Option Addr) (MB : Nat → Nat → Nat), k ≤ 3 ∧ i = .int .i64 k ∧ Hid (NB wr Mk N0 (N0 + 1) (N0 + 1 + 1) M k N S cp aom MB) ∧ Hid (Below w.heap.size w wr)) (fun i _ => 3 - (intOf i).toNat)
  case atStart => exact ⟨0, _, _, _, _, _, Nat.zero_le _, rfl, HST, HBL⟩
  case round =>
    obtain ⟨k, N, S, cp, aom, MB, hk, rfl, HR, HW⟩ := hrel
    by_cases hlt : k < 3
    · have hi0' : (0 : Int) ≤ (k : Int) := Int.natCast_nonneg _
      have hi1 : (k : Int) < 3 := by omega
      have cm := HR.out.masks k hlt
      have lM : Mk < wr.heap.size := World.block_lt_of_cell? wr _ cm
      obtain ⟨m, hm⟩ : ∃ m, m = M k % 16 := ⟨_, rfl⟩
      have hm16 : m < 16 := by omega
      have hme : ((M k : Nat) : Int) % 16 = (m : Int) := by omega
      have hM0 := hM k
      have HM16 := hid hm
      clear hm
      have hst2 := M2.start (P := N0 + 1) (m := m) (rfl : wr.heap.size = wr.heap.size) #[.slice none 0 0, .slice none 0 0, .int .i64 0]
      have HST2 := hid hst2
      clear hst2
      have hbw2 : Below w.heap.size w ((wr.alloc (.cells #[.slice none 0 0, .slice none 0 0, .int .i64 0] 36)).alloc (.cells #[.pointer none, .iface 32 (.pointer (some ⟨wr.heap.size, 0, none⟩)), .slice none 0 0] 42)) := (HW.out.alloc HW.out.size _).alloc (by have := HW.out.size; simp; omega) _
      have HBW2 := hid hbw2
      clear hbw2
      go_wp2
      obtain ⟨W4, hW4⟩ : ∃ W4, W4 = ((wr.alloc (.cells #[.slice none 0 0, .slice none 0 0, .int .i64 0] 36)).alloc (.cells #[.pointer none, .iface 32 (.pointer (some ⟨wr.heap.size, 0, none⟩)), .slice none 0 0] 42)) := ⟨_, rfl⟩
      rw [← hW4] at HST2 HBW2 ⊢
      have HW4 := hid hW4
      clear hW4
      obtain ⟨Z, hZ⟩ : ∃ Z, Z = wr.heap.size := ⟨_, rfl⟩
      rw [← hZ] at HST2 ⊢
      have HZ := hid hZ
      have HNM : Hid (∀ wx, Fr (· = Z + 1) W4 wx → ∀ j, j < 4 → wx.cell? ⟨N0, j, none⟩ = some (.string (nmB j))) := by
        intro wx hf j hj
        have h1 := HR.out.names j hj
        have h2 : N0 < wr.heap.size := World.block_lt_of_cell? wr _ h1
        rw [hf.cell (p := ⟨N0, j, none⟩) (by rw [HW4.out]; simp; omega) (by show ¬ N0 = Z + 1; omega), HW4.out, World.cell?_alloc_past _ _ _ (by simp; omega), World.cell?_alloc_past _ _ _ h2]
        exact h1
      have HSZ4 : Hid (W4.heap.size = Z + 1 + 1) := by show _ = _; rw [HW4.out, hZ]; simp
      have HAR : Hid (∀ wx, Fr (· = Z + 1) W4 wx → wx.cell? ⟨N0 + 1 + 1, k, none⟩ = some (.pointer none) ∧ wx.frozen? ⟨N0 + 1 + 1, k, none⟩ = false) := by
        intro wx hf
        have lA := HR.out.arr.lt
        have hb : wx.heap[N0 + 1 + 1]? = wr.heap[N0 + 1 + 1]? := by
          rw [hf.block (N0 + 1 + 1) (by rw [HW4.out]; simp; omega) (by omega), HW4.out, heap_alloc_old _ _ (by simp; omega), heap_alloc_old _ _ lA]
        have hr := HR.out.arr.of_block hb
        refine ⟨?_, hr.frozen k⟩
        have := hr.cell hlt
        simpa using this
      clear hZ
      go_loopw [17] (fun i wx => ∃ (j : Nat) (aj : Option Addr) (cj : Nat) (F : Nat → Nat), j ≤ 4 ∧ i = .int .i64 j ∧ Hid (M2 W4 wx (N0 + 1) (Z + 1) Z m j aj cj F)) (fun i _ => 4 - (intOf i).toNat)
      case atStart => exact ⟨0, _, _, _, Nat.zero_le _, rfl, HST2⟩
      case round =>
        obtain ⟨j, aj, cj, F, hj, rfl, HX⟩ := hrel
        by_cases hj4 : j < 4
        · have hj0' : (0 : Int) ≤ (j : Int) := Int.natCast_nonneg _
          have hj1 : (j : Int) < 4 := by omega
          have hand := and_one m hm16 j hj4
          have HX2 := HX.out
          have cnb2 := cell_of_row wr (Z + 1) 2 _ _ _ HX2.blk
          have fnb2 := frozen_of_row wr (Z + 1) 2 _ _ HX2.blk
          have lnb := lt_of_block HX2.blk
          have cnm : wr.cell? ⟨N0, j, none⟩ = some (.string (nmB j)) := HNM.out wr HX2.fr j hj4
          have lN0 : N0 < wr.heap.size := World.block_lt_of_cell? wr _ cnm
          simp at cnb2
          by_cases hbit : m / 2 ^ j % 2 = 1
          · rw [hbit] at hand
            have HBIT := hid hbit
            have HO := hid HX2.own
            have HLE := hid (bl_len m j)
            obtain ⟨L, hL⟩ : ∃ L, L = (bl m j).length := ⟨_, rfl⟩
            rw [← hL] at cnb2 HO HLE
            have HNL := hid hL
            have HNW : Hid (∀ i u, [Value.pointer (some ⟨wr.heap.size, 0, none⟩)][i]? = some u → ((wr.alloc (.cells #[.string (nmB j), .nilIface, .pointer none, .int .i32 0, .int .i32 0, .pointer (some ⟨N0 + 1, 0, none⟩), .bool false] 51)).alloc (.cells #[.pointer (some ⟨wr.heap.size, 0, none⟩)] 44)).drew.cell? ((⟨wr.heap.size + 1, 0, none⟩ : Addr).add i) = some u) := by
              have h1 := heap_alloc2_new wr (.cells #[.string (nmB j), .nilIface, .pointer none, .int .i32 0, .int .i32 0, .pointer (some ⟨N0 + 1, 0, none⟩), .bool false] 51) (.cells #[.pointer (some ⟨wr.heap.size, 0, none⟩)] 44)
              exact World.news_of_block (w := ((wr.alloc (.cells #[.string (nmB j), .nilIface, .pointer none, .int .i32 0, .int .i32 0, .pointer (some ⟨N0 + 1, 0, none⟩), .bool false] 51)).alloc (.cells #[.pointer (some ⟨wr.heap.size, 0, none⟩)] 44)).drew) (cs := #[.pointer (some ⟨wr.heap.size, 0, none⟩)]) h1
            have HO3 : Hid (((wr.alloc (.cells #[.string (nmB j), .nilIface, .pointer none, .int .i32 0, .int .i32 0, .pointer (some ⟨N0 + 1, 0, none⟩), .bool false] 51)).alloc (.cells #[.pointer (some ⟨wr.heap.size, 0, none⟩)] 44)).drew.ownsRow (Z + 1 + 1) 44 1 (.slice aj L cj) L (ptrs F L)) := (((HO.out.alloc _).alloc _).drew)
            have H1C : Hid (∀ u ∈ [Value.pointer (some ⟨wr.heap.size, 0, none⟩)], u.oneCell' = true) := by intro u hu; simp at hu; subst hu; rfl
            have HB1 : Hid (L + 1 ≤ maxLen) := by have := HLE.out; show L + 1 ≤ maxLen; unfold maxLen; omega
            have HB2 : Hid ((L + 1) * 8 ≤ 140737488355328) := by have := HLE.out; show (L + 1) * 8 ≤ _; omega
            have HB3 : Hid (Z + 1 + 1 ≤ ((wr.alloc (.cells #[.string (nmB j), .nilIface, .pointer none, .int .i32 0, .int .i32 0, .pointer (some ⟨N0 + 1, 0, none⟩), .bool false] 51)).alloc (.cells #[.pointer (some ⟨wr.heap.size, 0, none⟩)] 44)).drew.heap.size) := by show Z + 1 + 1 ≤ ((wr.alloc (.cells #[.string (nmB j), .nilIface, .pointer none, .int .i32 0, .int .i32 0, .pointer (some ⟨N0 + 1, 0, none⟩), .bool false] 51)).alloc (.cells #[.pointer (some ⟨wr.heap.size, 0, none⟩)] 44)).heap.size; simp; omega
            have HSZ : Hid (((wr.alloc (.cells #[.string (nmB j), .nilIface, .pointer none, .int .i32 0, .int .i32 0, .pointer (some ⟨N0 + 1, 0, none⟩), .bool false] 51)).alloc (.cells #[.pointer (some ⟨wr.heap.size, 0, none⟩)] 44)).drew.heap.size = wr.heap.size + 1 + 1) := by show ((wr.alloc (.cells #[.string (nmB j), .nilIface, .pointer none, .int .i32 0, .int .i32 0, .pointer (some ⟨N0 + 1, 0, none⟩), .bool false] 51)).alloc (.cells #[.pointer (some ⟨wr.heap.size, 0, none⟩)] 44)).heap.size = _; simp
            have cnb3 : ((wr.alloc (.cells #[.string (nmB j), .nilIface, .pointer none, .int .i32 0, .int .i32 0, .pointer (some ⟨N0 + 1, 0, none⟩), .bool false] 51)).alloc (.cells #[.pointer (some ⟨wr.heap.size, 0, none⟩)] 44)).cell? ⟨Z + 1, 2, none⟩ = some (.slice aj L cj) := by
              rw [World.cell?_alloc_past _ _ _ (by simp; omega), World.cell?_alloc_past _ _ _ (by exact lnb)]; exact cnb2
            have cnb4 : (wr.alloc (.cells #[.string (nmB j), .nilIface, .pointer none, .int .i32 0, .int .i32 0, .pointer (some ⟨N0 + 1, 0, none⟩), .bool false] 51)).cell? ⟨Z + 1, 2, none⟩ = some (.slice aj L cj) := by
              rw [World.cell?_alloc_past _ _ _ (by exact lnb)]; exact cnb2
            clear hbit hL HX2
            go_wp2_with fail
            go_region_law (refine step_append_lies _ rfl (.tmp 85) (.tmp 93) 40 rfl (Z + 1 + 1) 44 i0 (.pointer none) 1 8 Yba.underlying40 HI.out HZ0.out HZ1.out HZ2.out rfl Nat.one_pos (.slice aj L cj) L (ptrs F L) rfl HO3.out ⟨wr.heap.size + 1, 0, none⟩ 1 1 [.pointer (some ⟨wr.heap.size, 0, none⟩)] rfl rfl HNW.out H1C.out Nat.one_pos HB1.out HB2.out HB3.out (wr.heap.size + 1 + 1) HSZ.out ?_; intro g' cp' W5 hown5 hgrow hat5 hlt5; have hnb5 := HX.out.keep (HNL.out ▸ hgrow); have cn5 := cell_of_row W5 (Z + 1) 2 _ _ _ hnb5; have fn5 := frozen_of_row W5 (Z + 1) 2 _ _ hnb5; simp at cn5; have HOW5 := hid hown5; have HGR5 := hid hgrow; clear hown5 hgrow hat5 hlt5 hnb5)
            all_goals
              clear HNW HO3 H1C HB1 HB2 HB3 HSZ
              go_wp2
              go_roundw
              case rel =>
                have hL := HNL.out
                subst hL
                exact ⟨j + 1, _, _, _, by omega, by go_num, HX.out.hit HBIT.out HSZ4.out rfl rfl HOW5.out HGR5.out⟩
              case measure => simp [intOf]; omega
          · have h0 : m / 2 ^ j % 2 = 0 := by omega
            rw [h0] at hand
            have HBIT := hid hbit
            clear hbit h0 HX2
            go_wp2
            go_roundw
            case rel => exact ⟨j + 1, _, _, _, by omega, by go_num, HX.out.skip HBIT.out⟩
            case measure => simp [intOf]; omega
        · have e : j = 4 := by omega
          subst e
          obtain ⟨cA, fA⟩ := HAR.out wr HX.out.fr
          go_wp2
          go_roundw
          case rel =>
            have hm := HM16.out
            subst hm
            have hz := HZ.out
            have h4 := HW4.out
            have h6 : Below w.heap.size w wr := HBW2.out.trans (HX.out.fr.to_below (B := w.heap.size) HBW2.out.size (fun b hb => by have := HW.out.size; omega))
            refine ⟨k + 1, _, _, _, _, _, by omega, by go_num, hz ▸ HR.out.step hlt (c := #[.slice none 0 0, .slice none 0 0, .int .i64 0]) rfl (h4 ▸ hz ▸ HX.out), h6.setCell ?_ _⟩
            have := HLA.out
            show w.heap.size ≤ N0 + 1 + 1
            omega
          case measure => simp [intOf]; omega
    · have e : k = 3 := by omega
      subst e
      clear HST HBL
      have hvst := VB.start wr (N0 + 1) n (fun i => A0 i % 4) (fun i => A1 i % 3) (fun i => A2 i % 3) N
      have hbw5 : Below w.heap.size w (wr.alloc (.cells (madeCells #[.pointer none] n) 54)) := HW.out.alloc HW.out.size _
      have hbr5 : Below wr.heap.size wr (wr.alloc (.cells (madeCells #[.pointer none] n) 54)) := (Below.refl _ wr).alloc (Nat.le_refl _) _
      have HVST := hid hvst
      have HBW5 := hid hbw5
      have HBR5 := hid hbr5
      clear hvst hbw5 hbr5
      go_wp2_with fail
      obtain ⟨L, hL⟩ : ∃ L, L = wr.heap.size := ⟨_, rfl⟩
      obtain ⟨W5, hW5⟩ : ∃ W5, W5 = wr.alloc (.cells (madeCells #[.pointer none] n) 54) := ⟨_, rfl⟩
      rw [← hW5] at HVST HBW5 HBR5 ⊢
      rw [← hL] at HVST HBR5 ⊢
      have HL := hid hL
      have HBR5' : Hid (L ≤ W5.heap.size) := by rw [Hid, hW5, hL]; simp
      clear hL hW5 hmk
      have HBR : Hid (∀ w3, Fr (· = L) W5 w3 → Below L wr w3) := fun w3 hf => HBR5.out.trans (hf.to_below (B := L) HBR5'.out (fun b hb => by omega))
      have HLW : Hid (w.heap.size ≤ L) := by have := HW.out.size; rw [Hid, HL.out]; exact this
      go_loopw [105] (fun i w3 => ∃ (k : Nat) (V : Nat → Nat), k ≤ n ∧ i = .int .i64 k ∧ Hid (VB W5 w3 L (N0 + 1) n k V (fun i => A0 i % 4) (fun i => A1 i % 3) (fun i => A2 i % 3) N)) (fun i _ => n - (intOf i).toNat)
      case atStart => exact ⟨0, _, Nat.zero_le _, rfl, HVST⟩
      case round =>
        obtain ⟨k, V, hk', rfl, HV⟩ := hrel
        by_cases hlt3 : k < n
        · obtain ⟨b, off, rfl, hb, hbc⟩ := HFL.out (by omega)
          obtain ⟨f0, f1, f2, g0, g1, g2⟩ := hbc k hlt3
          have HBx := hid (HBR.out wr HV.out.fr)
          have hbx : Below w.heap.size w wr := HBW5.out.trans (HV.out.fr.to_below (B := w.heap.size) HBW5.out.size (fun b hb => by have := HLW.out; omega))
          have z0 := (hbx.cell (p := ⟨b, off + k * 3, none⟩) hb).trans f0
          have z1 := (hbx.cell (p := ⟨b, off + k * 3 + 1, none⟩) hb).trans f1
          have z2 := (hbx.cell (p := ⟨b, off + k * 3 + 2, none⟩) hb).trans f2
          have lb : b < wr.heap.size := World.block_lt_of_cell? wr _ z0
          obtain ⟨m, hm⟩ : ∃ m, m = A0 k % 4 := ⟨_, rfl⟩
          obtain ⟨t, ht⟩ : ∃ t, t = A2 k % 3 := ⟨_, rfl⟩
          have hm4 : m < 4 := by omega
          have ht3 : t < 3 := by omega
          have hme : ((A0 k : Nat) : Int) % 4 = (m : Int) := by omega
          have hte : ((A2 k : Nat) : Int) % 3 = (t : Int) := by omega
          have lnN : N0 < L := by rw [HL.out]; exact World.block_lt_of_cell? _ _ (HR.out.names 0 (by omega))
          have lA : N0 + 1 + 1 < L := by rw [HL.out]; exact HR.out.arr.lt
          have cnm := (HBx.out.cell (p := ⟨N0, m, none⟩) lnN).trans (HR.out.names m hm4)
          have carr := (HBx.out.cell (p := ⟨N0 + 1 + 1, t, none⟩) lA).trans (HR.out.arr.cell ht3)
          simp [ht3] at carr
          have lLr : L < wr.heap.size := HV.out.row.lt
          have lN0r : N0 < wr.heap.size := by omega
          have lAr : N0 + 1 + 1 < wr.heap.size := by omega
          have cL := HV.out.row.cell hlt3
          have fL := HV.out.row.frozen k
          simp at cL
          have carr2 : ∀ o1 o2, ((wr.alloc o1).alloc o2).cell? ⟨N0 + 1 + 1, t, none⟩ = some (.pointer (some ⟨N t, 0, none⟩)) := fun o1 o2 => by
            rw [World.cell?_alloc_past _ _ _ (by simp; omega), World.cell?_alloc_past _ _ _ (by exact lAr)]; exact carr
          have hk0' : (0 : Int) ≤ (k : Int) := Int.natCast_nonneg _
          have hk1 : (k : Int) < (n : Int) := by omega
          have HMM := hid hm
          have HTT := hid ht
          clear hbx f0 f1 f2 hbc hm ht
          rcases (show A1 k % 3 = 0 ∨ A1 k % 3 = 1 ∨ A1 k % 3 = 2 by omega) with h3 | h3 | h3
          · have hke : ((A1 k : Nat) : Int) % 3 = 0 := by omega
            have H3 := hid h3
            clear h3
            go_wp2
            go_roundw
            case rel => exact ⟨k + 1, _, by omega, by go_num, HV.out.step2 HMM.out.symm (by simp [H3.out]) (fun h => by have := H3.out; omega) (by have := H3.out; omega)⟩
            case measure => simp [intOf]; omega
          · have hke : ((A1 k : Nat) : Int) % 3 = 1 := by omega
            have H3 := hid h3
            clear h3
            go_wp2
            go_roundw
            case rel => exact ⟨k + 1, _, by omega, by go_num, HV.out.step2 HMM.out.symm (by simp [H3.out]) (fun _ => by rw [HTT.out]) (by have := H3.out; omega)⟩
            case measure => simp [intOf]; omega
          · have hke : ((A1 k : Nat) : Int) % 3 = 2 := by omega
            have cL3 : ∀ o1 o2 o3, (((wr.alloc o1).alloc o2).alloc o3).cell? ⟨L, k, none⟩ = some (.pointer none) := fun o1 o2 o3 => by
              rw [World.cell?_alloc_past _ _ _ (by simp; omega), World.cell?_alloc_past _ _ _ (by simp; omega), World.cell?_alloc_past _ _ _ (by exact lLr)]; exact cL
            have fL3 : ∀ o1 o2 o3, (((wr.alloc o1).alloc o2).alloc o3).frozen? ⟨L, k, none⟩ = false := fun o1 o2 o3 => by
              rw [World.frozen?_of_block (w := wr) (w' := ((wr.alloc o1).alloc o2).alloc o3) (a := ⟨L, k, none⟩) (by show (((wr.alloc o1).alloc o2).alloc o3).heap[L]? = wr.heap[L]?; rw [heap_alloc_old _ _ (by simp; omega), heap_alloc_old _ _ (by simp; omega), heap_alloc_old _ _ lLr])]
              exact fL
            have H3 := hid h3
            clear h3
            go_wp2
            go_roundw
            case rel => exact ⟨k + 1, _, by omega, by go_num, HV.out.step3 HMM.out.symm HTT.out.symm H3.out⟩
            case measure => simp [intOf]; omega
        · have e : k = n := by omega
          subst e
          have hbx : Below w.heap.size w wr := HBW5.out.trans (HV.out.fr.to_below (B := w.heap.size) HBW5.out.size (fun b hb => by have := HLW.out; omega))
          have hnx : Below L _ wr := HBR.out wr HV.out.fr
          rw [HL.out] at hnx
          obtain ⟨m, hm⟩ : ∃ m, m = sel % 4 := ⟨_, rfl⟩
          have hm4 : m < 4 := by omega
          have hme : ((sel : Nat) : Int) % 4 = (m : Int) := by omega
          have hb7 : Below wr.heap.size wr (wr.alloc (.cells #[.slice (some ⟨L, 0, none⟩) k k, .slice none 0 0, .int .i64 0] 36)) := (Below.refl _ _).alloc (Nat.le_refl _) _
          have hNm := fun t (ht : t < 3) => ((HR.out.nmd t ht).1.below hnx).below hb7
          have hlook := look_struct wr.heap.size L k (N0 + 1) m ind use V (fun i => A0 i % 4) (fun i => A1 i % 3) (fun i => A2 i % 3) N S (fun t => (bl (M t % 16) 4).length) cp aom MB (fun t i => (bl (M t % 16) 4).getD i 0) (fun t => miF (M t % 16) m use)
            (wr.alloc (.cells #[.slice (some ⟨L, 0, none⟩) k k, .slice none 0 0, .int .i64 0] 36)) hn hm4 (by rw [World.cell?_alloc_at _ _ _ _ rfl]; rfl)
            (fun i hi => (HV.out.fields (fun i => by omega) (fun i => by omega) i hi).below hb7 (Nat.le_refl _)) hNm (fun t ht => hit_mi _ _ _ (by omega) hm4) (fun i => by omega) (fun i j hi hj e => HR.out.inj i j hi hj e)
          have cnm := (hnx.cell (p := ⟨N0, m, none⟩) (World.block_lt_of_cell? _ _ (HR.out.names m hm4))).trans (HR.out.names m hm4)
          have HLK := hid hlook
          have HBX := hid hbx
          have HNX := hid hnx
          have HMM := hid hm
          clear hbx hnx hb7 hNm hlook hm HVST HBW5 HBR5 HBR5' HBR
          obtain ⟨pk, hpk⟩ : ∃ pk : Option Addr, pk = if use then some ⟨N0 + 1, 0, none⟩ else none := ⟨_, rfl⟩
          rw [← hpk] at HLK
          have HPK := hid hpk
          clear hpk
          go_upto_if 154 with fail
          go_cut [24] from 154 to 155 (fun v wx => v = .pointer pk ∧ wx = wr)
          case first =>
            cases use
            · have hp := HPK.out
              simp at hp
              go_wp2_with fail
              go_meet
              exact ⟨by rw [hp], rfl⟩
            · have hp := HPK.out
              simp at hp
              go_wp2_with fail
              go_meet
              exact ⟨by rw [hp], rfl⟩
          case rest =>
            obtain ⟨rfl, rfl⟩ := hcut
            go_upto_region 36 with fail
            have hsz := nmB_size m
            have h65 := nmB_ge65 m
            go_cut [27] from 154 to 172 (fun v wx => v = .bool (vis m use) ∧ wx = wc)
            case first =>
              cases use
              · go_wp2_with fail
                go_meet
                exact ⟨congrArg Value.bool (nmB_vis m _), rfl⟩
              · go_wp2_with fail
                go_meet
                exact ⟨rfl, rfl⟩
            case rest =>
              obtain ⟨rfl, rfl⟩ := hcut
              clear hsz h65
              go_wp2_with (go_at_call 6; refine HLK.out.mono ?_; intro e W8 hout; obtain ⟨obj, ix, ib, rfl, HOUT⟩ := hout.tuple; clear hout)
              have hb8 : Below w.heap.size w W8 := HBX.out.trans ((((Below.refl _ wc).alloc (Nat.le_refl _) _).trans (HOUT.out.2.mono (by simp))).mono HBX.out.size)
              have HB8 := hid hb8
              have HB78 := hid HOUT.out.2
              clear hb8 HLK cnm
              have HVR : Hid (∀ wx, Below W8.heap.size W8 wx → ∀ j, j < k → wx.cell? ⟨L, j, none⟩ = some (.pointer (some ⟨V j, 0, none⟩))) := by
                intro wx hx j hj
                have h1 := HV.out.row.cell hj
                simp [hj] at h1
                have l1 := World.block_lt_of_cell? wc _ h1
                have h2 := (HB78.out.cell (p := ⟨L, j, none⟩) (by simp; exact Nat.lt_succ_of_lt l1)).trans ((World.cell?_alloc_past _ _ _ l1).trans h1)
                exact (hx.cell (p := ⟨L, j, none⟩) (World.block_lt_of_cell? W8 _ h2)).trans h2
              obtain ⟨vb, hvb⟩ : ∃ vb, vb = vis m use := ⟨_, rfl⟩
              rw [← hvb]
              have HSM : Hid (∀ i, sameB (A0 i % 4) m use = (decide (A0 i % 4 = m) && vb)) := fun i => by rw [hvb]; exact sm_eq _ _ _
              have HVB := hid hvb
              clear hvb
              go_loopw [31, 32, 187] (fun c l i wr => ∃ p : Nat, p ≤ k ∧ i = .int .i64 p ∧ c = .int .i64 (cntF (fun i => sameB (A0 i % 4) m use) p : Nat) ∧ l = .int .i64 (lastI (fun i => sameB (A0 i % 4) m use) p) ∧ Hid (Below W8.heap.size W8 wr)) (fun _ _ i _ => k - (intOf i).toNat)
              case atStart => exact ⟨0, Nat.zero_le _, rfl, rfl, rfl, Below.refl _ _⟩
              case round =>
                obtain ⟨p, hp, rfl, rfl, rfl, HW9⟩ := hrel
                by_cases hpk : p < k
                · obtain ⟨b, off, rfl, hb, hbc⟩ := HFL.out (by omega)
                  obtain ⟨f0, f1, f2, g0, g1, g2⟩ := hbc p hpk
                  have hbx : Below w.heap.size w wr := HB8.out.trans (HW9.out.mono HB8.out.size)
                  have z0 := (hbx.cell (p := ⟨b, off + p * 3, none⟩) hb).trans f0
                  have z1 := (hbx.cell (p := ⟨b, off + p * 3 + 1, none⟩) hb).trans f1
                  have z2 := (hbx.cell (p := ⟨b, off + p * 3 + 2, none⟩) hb).trans f2
                  have lb : b < wr.heap.size := World.block_lt_of_cell? wr _ z0
                  have hp0' : (0 : Int) ≤ (p : Int) := Int.natCast_nonneg _
                  have hp1 : (p : Int) < (k : Int) := by omega
                  have hsm := HSM.out p
                  have hcl := cntF_le (fun i => sameB (A0 i % 4) m use) p
                  have e1 := cntF_one (fun i => sameB (A0 i % 4) m use) p
                  have e2 := lastI_one (fun i => sameB (A0 i % 4) m use) p
                  obtain ⟨cc, hcc⟩ : ∃ cc, cc = cntF (fun i => sameB (A0 i % 4) m use) p := ⟨_, rfl⟩
                  obtain ⟨ll, hll⟩ : ∃ ll, ll = lastI (fun i => sameB (A0 i % 4) m use) p := ⟨_, rfl⟩
                  rw [← hcc] at hcl e1 ⊢
                  rw [← hll] at e2 ⊢
                  have hbw := HW9.out.alloc HW9.out.size (.cells #[.int .u8 (A0 p), .int .u8 (A1 p), .int .u8 (A2 p)] 53)
                  have HBW := hid hbw
                  have E1 := hid e1
                  have E2 := hid e2
                  clear hbx f0 f1 f2 hbc hcc hll hbw e1 e2
                  cases vb
                  · simp only [Bool.and_false] at hsm
                    have HS := hid hsm
                    clear hsm
                    go_wp2
                    go_roundw
                    case rel => exact ⟨p + 1, by omega, by go_num, by rw [E1.out]; simp [HS.out], by rw [E2.out]; simp [HS.out], HBW.out⟩
                    case measure => simp [intOf]; omega
                  · by_cases hnm : A0 p % 4 = m
                    · have hne : ((A0 p : Nat) : Int) % 4 = (m : Int) := by omega
                      have HS : Hid (sameB (A0 p % 4) m use = true) := by rw [Hid, hsm]; simp [hnm]
                      clear hsm hnm
                      go_wp2
                      go_roundw
                      case rel => exact ⟨p + 1, by omega, by go_num, by rw [E1.out]; simp [HS.out], by rw [E2.out]; simp [HS.out], HBW.out⟩
                      case measure => simp [intOf]; omega
                    · have hne : (((A0 p : Nat) : Int) % 4 == (m : Int)) = false := by simp; omega
                      have HS : Hid (sameB (A0 p % 4) m use = false) := by rw [Hid, hsm]; simp [hnm]
                      clear hsm hnm
                      go_wp2
                      go_roundw
                      case rel => exact ⟨p + 1, by omega, by go_num, by rw [E1.out]; simp [HS.out], by rw [E2.out]; simp [HS.out], HBW.out⟩
                      case measure => simp [intOf]; omega
                · have e : p = k := by omega
                  subst e
                  have HC8 := hid (fun (q : Addr) (v : Value) (h : W8.cell? q = some v) => (HW9.out.cell (p := q) (World.block_lt_of_cell? W8 _ h)).trans h)
                  have hcl := cntF_le (fun i => sameB (A0 i % 4) m use) p
                  obtain ⟨cc, hcc⟩ : ∃ cc, cc = cntF (fun i => sameB (A0 i % 4) m use) p := ⟨_, rfl⟩
                  have HLP := hid (lastI_pos (fun i => sameB (A0 i % 4) m use) p)
                  obtain ⟨la, hla⟩ : ∃ la, la = lastF (fun i => sameB (A0 i % 4) m use) p := ⟨_, rfl⟩
                  rw [← hcc] at hcl HLP HOUT ⊢
                  rw [← hla] at HLP HOUT
                  have HCC := hid hcc
                  have HLL := hid hla
                  clear hcc hla
                  have hbx : Below w.heap.size w wr := HB8.out.trans (HW9.out.mono HB8.out.size)
                  have HBF := hid hbx
                  clear hbx
                  have hq1 := eql61_54
                  by_cases hpos : 0 < cc
                  · rcases HOUT.out.1 with ⟨_, g, heq, hcg⟩ | ⟨hz, _⟩ | ⟨hz, _⟩
                    · obtain ⟨hl, hlt'⟩ := HLP.out hpos
                      rw [hl]
                      have cg := HC8.out _ _ hcg
                      have lg := World.block_lt_of_cell? wr _ cg
                      have hEQ := eq_one g wr la cg
                      have HEQ := hid hEQ
                      clear hl hcg hEQ HLP
                      by_cases h1 : 1 < cc
                      · simp [h1] at heq
                        obtain ⟨rfl, rfl, rfl⟩ := heq
                        have h1' : (1 : Int) < (cc : Int) := by omega
                        clear HOUT HC8
                        go_wp2_with (go_at_call 7; refine HEQ.out.mono ?_; rintro e W10 ⟨rfl, nd, rfl⟩)
                        go_ret
                        exact ⟨rfl, below_drewN (HBF.out.alloc HBF.out.size _) _⟩
                      · have h1c : cc = 1 := by omega
                        subst h1c
                        simp at heq
                        obtain ⟨rfl, rfl, rfl⟩ := heq
                        have hV := HVR.out wr HW9.out la hlt'
                        have hla0 : (0 : Int) ≤ (la : Int) := Int.natCast_nonneg _
                        have hla1 : (la : Int) < (p : Int) := by omega
                        clear HOUT HC8
                        go_wp2_with (go_at_call 7; refine HEQ.out.mono ?_; rintro e W10 ⟨rfl, nd, rfl⟩)
                        go_ret
                        exact ⟨rfl, below_drewN (HBF.out.alloc HBF.out.size _) _⟩
                    · omega
                    · omega
                  · refine ?tail5_g
                    let rec tail5 : type_of% ?tail5_g := by
                      have hcc0 : cc = 0 := by omega
                      subst hcc0
                      have HST5 := hid (A5.start wr (fun i => A1 i % 3) (fun i => A2 i % 3) ind)
                      have hbw5 : Below wr.heap.size wr (((wr.alloc (.cells #[.int .i64 (-1), .int .i64 (-1), .int .i64 (-1)] 66)).alloc (.cells #[.bool false, .bool false, .bool false] 67)).alloc (.cells #[.bool false, .bool false, .bool false] 67)) := (((Below.refl _ wr).alloc (Nat.le_refl _) _).alloc (by simp) _).alloc (by simp; omega) _
                      have HBA := hid hbw5
                      clear hbw5 HLP hcl
                      go_wp2_with fail
                      obtain ⟨W9, hW9⟩ : ∃ W9, W9 = wr := ⟨_, rfl⟩
                      obtain ⟨X, hX⟩ : ∃ X, X = wr.heap.size := ⟨_, rfl⟩
                      generalize (((wr.alloc (.cells #[.int .i64 (-1), .int .i64 (-1), .int .i64 (-1)] 66)).alloc (.cells #[.bool false, .bool false, .bool false] 67)).alloc (.cells #[.bool false, .bool false, .bool false] 67)) = W11 at *
                      rw [← hX] at HST5 HBA ⊢
                      rw [← hW9] at HBA
                      have HX9 : Hid (X = W9.heap.size) := by rw [Hid, hX, hW9]
                      rw [← hW9] at HC8 HBF HW9
                      clear hX hW9 hq1
                      go_loopw [242] (fun i wx => ∃ q : Nat, q ≤ p ∧ i = .int .i64 q ∧ Hid (A5 wx X q (fun i => A1 i % 3) (fun i => A2 i % 3) ind) ∧ Hid (Below X W9 wx)) (fun i _ => p - (intOf i).toNat)
                      case atStart => exact ⟨0, Nat.zero_le _, rfl, HST5, HBA⟩
                      case round =>
                        obtain ⟨q, hq, rfl, H5, HW5⟩ := hrel
                        by_cases hqp : q < p
                        · obtain ⟨b, off, rfl, hb, hbc⟩ := HFL.out (by omega)
                          obtain ⟨f0, f1, f2, g0, g1, g2⟩ := hbc q hqp
                          have hbx : Below w.heap.size w wr := HBF.out.trans (HW5.out.mono (by rw [HX9.out]; exact HBF.out.size))
                          have z0 := (hbx.cell (p := ⟨b, off + q * 3, none⟩) hb).trans f0
                          have z1 := (hbx.cell (p := ⟨b, off + q * 3 + 1, none⟩) hb).trans f1
                          have z2 := (hbx.cell (p := ⟨b, off + q * 3 + 2, none⟩) hb).trans f2
                          have lb : b < wr.heap.size := World.block_lt_of_cell? wr _ z0
                          have hq0' : (0 : Int) ≤ (q : Int) := Int.natCast_nonneg _
                          have hq1 : (q : Int) < (p : Int) := by omega
                          obtain ⟨t, ht⟩ : ∃ t, t = A2 q % 3 := ⟨_, rfl⟩
                          have ht3 : t < 3 := by omega
                          have hte : ((A2 q : Nat) : Int) % 3 = (t : Int) := by omega
                          have rF := H5.out.f.cell ht3
                          have rD := H5.out.d.cell ht3
                          have rI := H5.out.i.cell ht3
                          have gF := H5.out.f.frozen t
                          have gD := H5.out.d.frozen t
                          have gI := H5.out.i.frozen t
                          have lF := H5.out.f.lt
                          have lD := H5.out.d.lt
                          have lI := H5.out.i.lt
                          have HTT := hid ht
                          clear hbx f0 f1 f2 hbc ht
                          by_cases h3 : A1 q % 3 = 0
                          · have hke : ((A1 q : Nat) : Int) % 3 = 0 := by omega
                            have H3 := hid h3
                            clear h3
                            go_wp2
                            go_roundw
                            case rel => exact ⟨q + 1, by omega, by go_num, H5.out.skip H3.out _, HW5.out.alloc (by have := H5.out.f.lt; omega) _⟩
                            case measure => simp [intOf]; omega
                          · cases hfi : fi (fun i => A1 i % 3) (fun i => A2 i % 3) t q with
                            | none =>
                              have e : fiI (fun i => A1 i % 3) (fun i => A2 i % 3) t q = -1 := by simp [fiI, hfi]
                              rw [e] at rF
                              rcases (show A1 q % 3 = 1 ∨ A1 q % 3 = 2 by omega) with h4 | h4
                              all_goals
                                have hke : ((A1 q : Nat) : Int) % 3 = ((A1 q % 3 : Nat) : Int) := by omega
                                rw [h4] at hke
                                simp at hke
                                have H3 := hid h3
                                have H4 := hid h4
                                have HFI := hid hfi
                                clear h3 h4 hfi e
                                cases ind
                                all_goals
                                  go_wp2
                                  go_roundw
                                  case rel => exact ⟨q + 1, by omega, by go_num, H5.out.first2 H3.out HTT.out.symm HFI.out (by simp [H4.out]) _, ((HW5.out.setCell (p := ⟨X, t, none⟩) (Nat.le_refl _) _).setCell (p := ⟨X + 1 + 1, t, none⟩) (by show X ≤ X + 1 + 1; omega) _).alloc (by have := H5.out.f.lt; simp; omega) _⟩
                                  case measure => simp [intOf]; omega
                            | some x =>
                              have e : fiI (fun i => A1 i % 3) (fun i => A2 i % 3) t q = (x : Int) := by simp [fiI, hfi]
                              rw [e] at rF
                              have hx0 : ¬ ((x : Int) < 0) := by omega
                              have hke : ¬ (((A1 q : Nat) : Int) % 3 = 0) := by omega
                              have H3 := hid h3
                              have HFI := hid hfi
                              clear h3 hfi e
                              go_wp2
                              go_roundw
                              case rel => exact ⟨q + 1, by omega, by go_num, H5.out.again2 H3.out HTT.out.symm HFI.out _, (HW5.out.setCell (p := ⟨X + 1, t, none⟩) (by show X ≤ X + 1; omega) _).alloc (by have := H5.out.f.lt; simp; omega) _⟩
                              case measure => simp [intOf]; omega
                        · have e : q = p := by omega
                          subst e
                          have HT : Hid (∀ (a : Addr) (v : Value), wc.cell? a = some v → wr.cell? a = some v) := by
                            intro a v ha
                            have l1 := World.block_lt_of_cell? wc _ ha
                            have h1 := (HB78.out.cell (p := a) (by simp; exact Nat.lt_succ_of_lt l1)).trans ((((Below.refl wc.heap.size wc).alloc (Nat.le_refl _) _).cell (p := a) l1).trans ha)
                            have h2 := HC8.out a v h1
                            have l2 := World.block_lt_of_cell? W9 _ h2
                            exact (HW5.out.cell (p := a) (by rw [HX9.out]; exact l2)).trans h2
                          have HT0 : Hid (∀ (a : Addr) (v : Value), w.cell? a = some v → wr.cell? a = some v) := by
                            intro a v ha
                            have h1 := (HBF.out.cell (p := a) (World.block_lt_of_cell? w _ ha)).trans ha
                            have l2 := World.block_lt_of_cell? W9 _ h1
                            exact (HW5.out.cell (p := a) (by rw [HX9.out]; exact l2)).trans h1
                          have HT8 : Hid (∀ (a : Addr) (v : Value), W8.cell? a = some v → wr.cell? a = some v) := by
                            intro a v ha
                            have h2 := HC8.out a v ha
                            exact (HW5.out.cell (p := a) (by rw [HX9.out]; exact World.block_lt_of_cell? W9 _ h2)).trans h2
                          have HBE : Hid (Below w.heap.size w wr) := HBF.out.trans (HW5.out.mono (by rw [HX9.out]; exact HBF.out.size))
                          go_wp2_with fail
                          obtain ⟨W12, hW12⟩ : ∃ W12, W12 = wr := ⟨_, rfl⟩
                          rw [← hW12] at HT HT0 HT8 HBE H5 ⊢
                          clear hW12 HW5 HST5 HBA
                          go_loopw [42, 43, 44, 45, 274] (fun c wv wi wb i wx => ∃ r : Nat, r ≤ q ∧ i = .int .i64 r ∧ c = .int .i64 ((lawSt (fun i => A1 i % 3) (fun i => A2 i % 3) (fun t => miF (M t % 16) m use) q r).1 : Nat) ∧ Hid (Want wx (lawSt (fun i => A1 i % 3) (fun i => A2 i % 3) (fun t => miF (M t % 16) m use) q r) ind (fun i => A1 i % 3) (fun i => A2 i % 3) (fun t => miF (M t % 16) m use) MB wv wi wb) ∧ Hid (Below W12.heap.size W12 wx)) (fun _ _ _ _ i _ => q - (intOf i).toNat)
                          case atStart => exact ⟨0, Nat.zero_le _, rfl, rfl, .inl ⟨rfl, rfl, rfl, rfl⟩, Below.refl _ _⟩
                          case round =>
                            obtain ⟨r, hr, rfl, rfl, HWT, HW6⟩ := hrel
                            have hst2 := lawSt_le (fun i => A1 i % 3) (fun i => A2 i % 3) (fun t => miF (M t % 16) m use) q r
                            obtain ⟨st, hst⟩ : ∃ st, st = lawSt (fun i => A1 i % 3) (fun i => A2 i % 3) (fun t => miF (M t % 16) m use) q r := ⟨_, rfl⟩
                            rw [← hst] at HWT hst2 ⊢
                            have HST := hid hst
                            clear hst
                            by_cases hrq : r < q
                            · obtain ⟨b, off, rfl, hb, hbc⟩ := HFL.out (by omega)
                              obtain ⟨f0, f1, f2, g0, g1, g2⟩ := hbc r hrq
                              have HU : Hid (∀ (a : Addr) (v : Value), W12.cell? a = some v → wr.cell? a = some v) := fun a v h => (HW6.out.cell (p := a) (World.block_lt_of_cell? W12 _ h)).trans h
                              have z0 := HU.out _ _ (HT0.out _ _ f0)
                              have z1 := HU.out _ _ (HT0.out _ _ f1)
                              have z2 := HU.out _ _ (HT0.out _ _ f2)
                              have lb : b < wr.heap.size := World.block_lt_of_cell? wr _ z0
                              have hq0' : (0 : Int) ≤ (r : Int) := Int.natCast_nonneg _
                              have hq1 : (r : Int) < (q : Int) := by omega
                              obtain ⟨t, ht⟩ : ∃ t, t = A2 r % 3 := ⟨_, rfl⟩
                              have ht3 : t < 3 := by omega
                              have hte : ((A2 r : Nat) : Int) % 3 = (t : Int) := by omega
                              have rF := HU.out _ _ (H5.out.f.cell ht3)
                              have rD := HU.out _ _ (H5.out.d.cell ht3)
                              have rI := HU.out _ _ (H5.out.i.cell ht3)
                              have rM := HU.out _ _ (HT.out _ _ ((HNX.out.cell (p := ⟨Mk, t, none⟩) (World.block_lt_of_cell? _ _ (HR.out.masks t ht3))).trans (HR.out.masks t ht3)))
                              have HTT := hid ht
                              have hbw := HW6.out.alloc HW6.out.size (.cells #[.int .u8 (A0 r), .int .u8 (A1 r), .int .u8 (A2 r)] 53)
                              have HBW := hid hbw
                              have HWT2 := hid (HWT.out.below ((Below.refl wr.heap.size wr).alloc (Nat.le_refl _) (.cells #[.int .u8 (A0 r), .int .u8 (A1 r), .int .u8 (A2 r)] 53)))
                              have lF : X < wr.heap.size := World.block_lt_of_cell? wr _ rF
                              have lD : X + 1 < wr.heap.size := World.block_lt_of_cell? wr _ rD
                              have lI : X + 1 + 1 < wr.heap.size := World.block_lt_of_cell? wr _ rI
                              have lMk : Mk < wr.heap.size := World.block_lt_of_cell? wr _ rM
                              clear f0 f1 f2 hbc ht hbw
                              by_cases h3 : A1 r % 3 = 0
                              · have hke : ((A1 r : Nat) : Int) % 3 = 0 := by omega
                                have H3 := hid h3
                                clear h3 rF rD rI rM
                                go_wp2
                                go_roundw
                                case rel =>
                                  have e := lawSt_miss (fun i => A1 i % 3) (fun i => A2 i % 3) (fun t => miF (M t % 16) m use) q r (.inl H3.out)
                                  exact ⟨r + 1, by omega, by go_num, by rw [e, ← HST.out], by rw [e, ← HST.out]; exact HWT2.out, HBW.out⟩
                                case measure => simp [intOf]; omega
                              · have hke : ¬ (((A1 r : Nat) : Int) % 3 = 0) := by omega
                                have H3 := hid h3
                                clear h3
                                by_cases hfr : fi (fun i => A1 i % 3) (fun i => A2 i % 3) t q = some r
                                · have efi : fiI (fun i => A1 i % 3) (fun i => A2 i % 3) t q = (r : Int) := by simp [fiI, hfr]
                                  have efn : fin (fun i => A1 i % 3) (fun i => A2 i % 3) ind t q = (ind || decide (A1 r % 3 = 2)) := by simp [fin, hfr]
                                  rw [efi] at rF
                                  rw [efn] at rI
                                  have HFR := hid hfr
                                  obtain ⟨mk, hmk⟩ : ∃ mk, mk = M t % 16 := ⟨_, rfl⟩
                                  have hm16 : mk < 16 := by omega
                                  have hmke : ((M t : Nat) : Int) % 16 = (mk : Int) := by omega
                                  have hMt := hM t
                                  have HMK := hid hmk
                                  have hand := and_one mk hm16 m hm4
                                  clear hfr efi efn hmk
                                  by_cases hit : vb = true ∧ mk / 2 ^ m % 2 = 1
                                  · obtain ⟨hv, hbit⟩ := hit
                                    subst hv
                                    rw [hbit] at hand
                                    have HMI : Hid (miF (M t % 16) m use = some (bl mk m).length) := by
                                      rw [Hid, ← HMK.out]
                                      unfold miF
                                      rw [if_pos]
                                      rw [← HVB.out]
                                      simp [bitB, hbit]
                                    have HV0 := hid (fun (a : Addr) (v : Value) h => HU.out a v (HT.out a v ((HNX.out.cell (p := a) (World.block_lt_of_cell? _ _ h)).trans h)))
                                    have hnd := (HR.out.nmd t ht3).1
                                    have hin := bl_in mk m hm16 hm4 hbit
                                    have cA := HV0.out _ _ (HR.out.arr.cell ht3)
                                    rw [if_pos ht3] at cA
                                    have cN := HV0.out ⟨N t, 2, none⟩ _ (cell_of_row _ (N t) 2 _ _ _ hnd.blk)
                                    simp at cN
                                    obtain ⟨g, eg, hgc⟩ := hnd.fns (by rw [← HMK.out]; omega)
                                    have cG := HV0.out _ _ (hgc (bl mk m).length (by rw [← HMK.out]; exact hin)).1
                                    rw [eg, ← HMK.out] at cN
                                    have lA : N0 + 1 + 1 < wr.heap.size := World.block_lt_of_cell? wr _ cA
                                    have lN : N t < wr.heap.size := World.block_lt_of_cell? wr _ cN
                                    have lG : g < wr.heap.size := World.block_lt_of_cell? wr _ cG
                                    have HIN := hid hin
                                    have HLE := hid (bl_len mk m)
                                    clear hbit hnd hgc hin eg
                                    obtain ⟨db, hdb⟩ : ∃ db, db = du (fun i => A1 i % 3) (fun i => A2 i % 3) t q := ⟨_, rfl⟩
                                    rw [← hdb] at rD
                                    have HDB := hid hdb
                                    clear hdb
                                    have hin' : (((bl mk m).length : Nat) : Int) < (((bl mk 4).length : Nat) : Int) := by have := HIN.out; omega
                                    obtain ⟨fb, hfb⟩ : ∃ fb, fb = (ind || decide (A1 r % 3 = 2)) := ⟨_, rfl⟩
                                    rw [← hfb] at rI
                                    have HFB := hid hfb
                                    clear hfb
                                    cases db
                                    all_goals
                                      go_wp2
                                      obtain ⟨W13, hW13⟩ : ∃ W13, W13 = wr.alloc (.cells #[.int .u8 (A0 r), .int .u8 (A1 r), .int .u8 (A2 r)] 53) := ⟨_, rfl⟩
                                      have cA3 : W13.cell? ⟨N0 + 1 + 1, t, none⟩ = some (.pointer (some ⟨N t, 0, none⟩)) := by rw [hW13, World.cell?_alloc_past _ _ _ lA]; exact cA
                                      have cN3 : W13.cell? ⟨N t, 2, none⟩ = some (.slice (some ⟨g, 0, none⟩) (bl mk 4).length (cp t)) := by rw [hW13, World.cell?_alloc_past _ _ _ lN]; exact cN
                                      have cG3 : W13.cell? ⟨g, (bl mk m).length, none⟩ = some (.pointer (some ⟨MB t (bl mk m).length, 0, none⟩)) := by rw [hW13, World.cell?_alloc_past _ _ _ lG]; exact cG
                                      have cI3 : W13.cell? ⟨X + 1 + 1, t, none⟩ = some (.bool fb) := by rw [hW13, World.cell?_alloc_past _ _ _ lI]; exact rI
                                      have lA3 : N0 + 1 + 1 < W13.heap.size := World.block_lt_of_cell? W13 _ cA3
                                      have lN3 : N t < W13.heap.size := World.block_lt_of_cell? W13 _ cN3
                                      have lG3 : g < W13.heap.size := World.block_lt_of_cell? W13 _ cG3
                                      have lI3 : X + 1 + 1 < W13.heap.size := World.block_lt_of_cell? W13 _ cI3
                                      rw [← hW13] at HBW ⊢
                                      clear hW13 cA cN cG rI rF rD rM z0 z1 z2 lb lF lD lI lMk lA lN lG
                                      go_loopw [50, 51] (fun mi j wx => ∃ jj : Nat, jj ≤ m ∧ j = .int .i64 jj ∧ mi = .int .i64 ((bl mk jj).length : Nat) ∧ wx = W13) (fun _ j _ => m - (intOf j).toNat)
                                      case atStart => exact ⟨0, Nat.zero_le _, rfl, rfl, rfl⟩
                                      case round =>
                                        obtain ⟨j, hj, rfl, rfl, hwx⟩ := hrel
                                        subst hwx
                                        have hbl := bl_len mk j
                                        by_cases hjm : j < m
                                        · have hand7 := and_one mk hm16 j (by omega)
                                          have hj0' : (0 : Int) ≤ (j : Int) := Int.natCast_nonneg _
                                          have hj1 : (j : Int) < (m : Int) := by omega
                                          have hj2 : (j : Int) < 4 := by omega
                                          by_cases hb7 : mk / 2 ^ j % 2 = 1
                                          · rw [hb7] at hand7
                                            have HB7 := hid hb7
                                            clear hb7
                                            go_wp2
                                            go_roundw
                                            case rel => exact ⟨j + 1, by omega, by go_num, by rw [bl_step1 _ _ HB7.out]; go_num, trivial⟩
                                            case measure => simp [intOf]; omega
                                          · have hb0 : mk / 2 ^ j % 2 = 0 := by omega
                                            rw [hb0] at hand7
                                            have HB7 := hid hb7
                                            clear hb7 hb0
                                            go_wp2
                                            go_roundw
                                            case rel => exact ⟨j + 1, by omega, by go_num, by rw [bl_step0 _ _ HB7.out], trivial⟩
                                            case measure => simp [intOf]; omega
                                        · have e : j = m := by omega
                                          subst e
                                          go_wp2
                                          go_roundw
                                          case rel =>
                                            have e := lawSt_hit (fun i => A1 i % 3) (fun i => A2 i % 3) (fun t => miF (M t % 16) j use) q r H3.out (by rw [← HTT.out]; exact HFR.out) (bl mk j).length (by rw [← HTT.out]; exact HMI.out)
                                            rw [← HST.out, ← HTT.out, ← HDB.out] at e
                                            refine ⟨r + 1, by omega, by go_num, by rw [e]; go_num, ?_, HBW.out.alloc HBW.out.size _⟩
                                            refine Want.hit e (by simp) HTT.out HMI.out rfl rfl (by rw [HFB.out]) ?_ ?_
                                            · rw [World.cell?_alloc_at _ _ _ _ rfl]; rfl
                                            · rw [World.cell?_alloc_at _ _ _ _ rfl]; rfl
                                          case measure => simp [intOf]; omega
                                  · have HMI : Hid (miF (M t % 16) m use = none) := by
                                      rw [Hid, ← HMK.out]
                                      unfold miF
                                      rw [if_neg]
                                      rw [← HVB.out]
                                      intro hc
                                      simp [bitB] at hc
                                      exact hit hc
                                    have hz : vb = true → mk / 2 ^ m % 2 = 0 := fun h => by
                                      have : ¬ mk / 2 ^ m % 2 = 1 := fun h' => hit ⟨h, h'⟩
                                      omega
                                    clear hit rD rI
                                    cases vb
                                    · clear hz
                                      go_wp2
                                      go_roundw
                                      case rel =>
                                        have e := lawSt_miss (fun i => A1 i % 3) (fun i => A2 i % 3) (fun t => miF (M t % 16) m use) q r (.inr (.inr (by rw [← HTT.out]; exact HMI.out)))
                                        exact ⟨r + 1, by omega, by go_num, by rw [e, ← HST.out], by rw [e, ← HST.out]; exact HWT2.out, HBW.out⟩
                                      case measure => simp [intOf]; omega
                                    · rw [hz rfl] at hand
                                      clear hz
                                      go_wp2
                                      go_roundw
                                      case rel =>
                                        have e := lawSt_miss (fun i => A1 i % 3) (fun i => A2 i % 3) (fun t => miF (M t % 16) m use) q r (.inr (.inr (by rw [← HTT.out]; exact HMI.out)))
                                        exact ⟨r + 1, by omega, by go_num, by rw [e, ← HST.out], by rw [e, ← HST.out]; exact HWT2.out, HBW.out⟩
                                      case measure => simp [intOf]; omega
                                · have hne : (fiI (fun i => A1 i % 3) (fun i => A2 i % 3) t q == (r : Int)) = false := by
                                    simp only [fiI]
                                    cases hf : fi (fun i => A1 i % 3) (fun i => A2 i % 3) t q with
                                    | none => simp
                                    | some x =>
                                      rw [hf] at hfr
                                      have : x ≠ r := fun e => hfr (by rw [e])
                                      simp; omega
                                  have HFR := hid hfr
                                  obtain ⟨fx, hfx⟩ : ∃ fx, fx = fiI (fun i => A1 i % 3) (fun i => A2 i % 3) t q := ⟨_, rfl⟩
                                  rw [← hfx] at rF hne
                                  clear hfr hfx rD rI rM
                                  go_wp2
                                  go_roundw
                                  case rel =>
                                    have e := lawSt_miss (fun i => A1 i % 3) (fun i => A2 i % 3) (fun t => miF (M t % 16) m use) q r (.inr (.inl (by rw [← HTT.out]; exact HFR.out)))
                                    exact ⟨r + 1, by omega, by go_num, by rw [e, ← HST.out], by rw [e, ← HST.out]; exact HWT2.out, HBW.out⟩
                                  case measure => simp [intOf]; omega
                            · have e : r = q := by omega
                              subst e
                              have hfold := lawSt_all (fun i => A1 i % 3) (fun i => A2 i % 3) (fun t => miF (M t % 16) m use) (fun i => sameB (A0 i % 4) m use) r HCC.out.symm
                              rw [← HST.out] at hfold
                              have HEND : Hid (Below w.heap.size w wr) := HBE.out.trans (HW6.out.mono HBE.out.size)
                              have HU8 : Hid (∀ (a : Addr) (v : Value), W8.cell? a = some v → wr.cell? a = some v) := fun a v h => (HW6.out.cell (p := a) (World.block_lt_of_cell? W12 _ (HT8.out a v h))).trans (HT8.out a v h)
                              rcases HOUT.out.1 with ⟨hz, _⟩ | ⟨_, hpos1, t, g, hmi, heq, hg0, hg1⟩ | ⟨_, hz1, heq⟩
                              · exact absurd hz (Nat.lt_irrefl _)
                              · rw [hfold] at hpos1 hmi heq hg0
                                rcases HWT.out with ⟨h0, _⟩ | ⟨_, t', g', hmi', rfl, rfl, rfl, hw0, hw1⟩
                                · omega
                                · have et : t' = t := Option.some.inj (hmi'.symm.trans hmi)
                                  subst et
                                  have hEQ := eq_two g g' wr st.2 t' (HU8.out _ _ hg0) (HU8.out _ _ hg1) hw0 hw1
                                  have HEQ := hid hEQ
                                  obtain ⟨bb, hbb⟩ : ∃ bb, bb = (ind || decide (A1 st.2 % 3 = 2)) := ⟨_, rfl⟩
                                  rw [← hbb] at heq ⊢
                                  clear hEQ hg0 hg1 hw0 hw1 hmi hmi' hbb hfold
                                  by_cases h1 : 1 < st.1
                                  · simp [h1] at heq
                                    obtain ⟨rfl, rfl, rfl⟩ := heq
                                    have h1' : (1 : Int) < (st.1 : Int) := by omega
                                    clear HOUT HC8 HT HT0 HT8 HU8
                                    go_wp2_with (go_at_call 7; refine HEQ.out.mono ?_; rintro e W10 ⟨rfl, nd, rfl⟩)
                                    go_ret
                                    exact ⟨rfl, below_drewN HEND.out _⟩
                                  · have h1c : st.1 = 1 := by omega
                                    have hq2 := eql61_same
                                    rw [h1c]
                                    simp [h1c] at heq
                                    obtain ⟨rfl, rfl, rfl⟩ := heq
                                    clear HOUT HC8 HT HT0 HT8 HU8
                                    go_wp2_with (go_at_call 7; refine HEQ.out.mono ?_; rintro e W10 ⟨rfl, nd, rfl⟩)
                                    go_ret
                                    exact ⟨rfl, below_drewN HEND.out _⟩
                              · rw [hfold] at hz1
                                rcases HWT.out with ⟨h0, rfl, rfl, rfl⟩ | ⟨h0, _⟩
                                · simp at heq
                                  obtain ⟨rfl, rfl, rfl⟩ := heq
                                  rw [h0]
                                  clear HOUT HC8 HT HT0 HT8 HU8 hfold
                                  have hnl := fun w => Lib.run_eql_slice_nil (P := Yba.prog) w 62 3 none 0 0 0 0 Yba.underlying62
                                  go_wp2
                                  go_ret
                                  exact ⟨rfl, HEND.out⟩
                                · omega
                    exact tail5
end Go.Proofs.Ybulkhuy
