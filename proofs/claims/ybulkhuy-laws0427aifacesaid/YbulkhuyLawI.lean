/-
  Walk of LawS0427AIface (function 4).
-/
import Derived.Test.YbulkhuyLookI
import Derived.Deep.OwnRows
namespace Go.Proofs.Ybulkhuy
open Go.RowKit

theorem Yba.info44 : (Yba.prog.info? 44).map (fun i => (i.zero, i.size, i.bytes)) = some (some (.pointer none), 1, 8) := by kernel_rfl

/-- n bytes that came in. -/
def Bytes (w : World) (ao : Option Addr) (n : Nat) (Z : Nat → Nat) : Prop :=
  0 < n → ∃ b off, ao = some ⟨b, off, none⟩ ∧ b < w.heap.size ∧ ∀ k, k < n → w.cell? ⟨b, off + k, none⟩ = some (.int .u8 (Z k)) ∧ Z k ≤ 255

theorem Yba.info51 : (Yba.prog.info? 51).map (fun i => (i.zero.isSome, i.size)) = some (true, 7) := by kernel_rfl
theorem Yba.comp44 : (Yba.prog.info? 44).map (fun i => i.comparable) = some true := by kernel_rfl
theorem eql61_same (a : Addr) (w : World) : (binOp .eql 61 (.iface 44 (.pointer (some a))) (.iface 44 (.pointer (some a)))).run Yba.prog w = .ok (.bool true) w := by
  obtain ⟨i, hi, hc⟩ := Option.map_eq_some_iff.1 Yba.comp44
  obtain ⟨j, hj, _⟩ := Option.map_eq_some_iff.1 Yba.info51
  exact run_eql_iface_ptr_same w a Yba.underlying61 Yba.underlying44 hi hc hj

/-- What lies there behind k rounds of the first loop. -/
structure Built (wr : World) (N P L n k : Nat) (B I : Nat → Nat) : Prop where
  names : ∀ m, m < 4 → wr.cell? ⟨N, m, none⟩ = some (.string (nmB m))
  row : wr.rowIs L 44 n (fun j => if j < k then .pointer (some ⟨B j, 0, none⟩) else .pointer none)
  objs : ∀ j, j < k → ObjAt wr (B j) P (I j) ∧ L < B j

theorem Built.start (W : World) (n : Nat) (I : Nat → Nat) :
    Built (((W.alloc (.cells #[.string ⟨#[65]⟩, .string ⟨#[66]⟩, .string ⟨#[99]⟩, .string ⟨#[100]⟩] 24)).alloc (.cells #[.string ⟨#[112]⟩, .string ⟨#[112]⟩, .pointer none] 29)).alloc (.cells (madeCells #[.pointer none] n) 44))
      W.heap.size (W.heap.size + 1) (W.heap.size + 1 + 1) n 0 (fun _ => 0) I := by
  refine ⟨fun m hm => ?_, ?_, fun j hj => absurd hj (Nat.not_lt_zero _)⟩
  · rw [World.cell?_alloc_past _ _ _ (by simp; omega), World.cell?_alloc_past _ _ _ (by simp), World.cell?_alloc_at _ _ _ _ rfl]
    match m, hm with
    | 0, _ | 1, _ | 2, _ | 3, _ => rfl
  · have := World.rowIs_made ((W.alloc (.cells #[.string ⟨#[65]⟩, .string ⟨#[66]⟩, .string ⟨#[99]⟩, .string ⟨#[100]⟩] 24)).alloc (.cells #[.string ⟨#[112]⟩, .string ⟨#[112]⟩, .pointer none] 29)) (.pointer none) n 44
    have es : ((W.alloc (.cells #[.string ⟨#[65]⟩, .string ⟨#[66]⟩, .string ⟨#[99]⟩, .string ⟨#[100]⟩] 24)).alloc (.cells #[.string ⟨#[112]⟩, .string ⟨#[112]⟩, .pointer none] 29)).heap.size = W.heap.size + 1 + 1 := by simp
    rw [es] at this
    exact this.congr (fun i _ => by simp)

theorem Built.lt {wr : World} {N P L n k : Nat} {B I : Nat → Nat} (h : Built wr N P L n k B I) : N < wr.heap.size ∧ L < wr.heap.size :=
  ⟨World.block_lt_of_cell? wr _ (h.names 0 (by omega)), h.row.lt⟩

theorem Built.step {wr : World} {N P L n k : Nat} {B I : Nat → Nat} (h : Built wr N P L n k B I) (hNL : N < L) {c1 c2 c3 c4 c6 : Value} :
    Built ((wr.setCell ⟨L, k, none⟩ (.pointer (some ⟨wr.heap.size, 0, none⟩))).alloc (.cells #[.string (nmB (I k)), c1, c2, c3, c4, .pointer (some ⟨P, 0, none⟩), c6] 51)) N P L n (k + 1) (fun j => if j = k then wr.heap.size else B j) I := by
  obtain ⟨lN, lL⟩ := h.lt
  refine ⟨fun m hm => ?_, ?_, fun j hj => ?_⟩
  · rw [World.cell?_alloc_past _ _ _ (by simpa using lN), World.cell?_setCell_far _ _ _ _ (by simp; omega)]
    exact h.names m hm
  · refine ((h.row.set k _).alloc _).congr (fun i _ => ?_)
    by_cases e : i = k
    · simp [e]
    · have : (i < k + 1) = (i < k) := by simp; omega
      simp [e, this]
  · by_cases e : j = k
    · subst e
      simp only [if_true]
      refine ⟨⟨?_, ?_⟩, lL⟩
      · rw [World.cell?_alloc_at _ _ _ _ (by simp)]; rfl
      · rw [World.cell?_alloc_at _ _ _ _ (by simp)]; rfl
    · simp only [if_neg e]
      obtain ⟨⟨h1, h2⟩, h3⟩ := h.objs j (by omega)
      have l1 := World.block_lt_of_cell? wr _ h1
      refine ⟨⟨?_, ?_⟩, h3⟩
      · rw [World.cell?_alloc_past _ _ _ (by simpa using l1), World.cell?_setCell_far _ _ _ _ (by simp; omega)]; exact h1
      · rw [World.cell?_alloc_past _ _ _ (by simpa using l1), World.cell?_setCell_far _ _ _ _ (by simp; omega)]; exact h2

theorem nmB_0 : nmB 0 = { data := #[65] } := rfl
theorem nmB_1 : nmB 1 = { data := #[66] } := rfl
theorem nmB_2 : nmB 2 = { data := #[99] } := rfl
theorem nmB_3 : nmB 3 = { data := #[100] } := rfl

theorem at65 (h : 0 < ({ data := #[65] } : ByteArray).size) : (({ data := #[65] } : ByteArray)[0]'h).toNat = 65 := rfl
theorem at66 (h : 0 < ({ data := #[66] } : ByteArray).size) : (({ data := #[66] } : ByteArray)[0]'h).toNat = 66 := rfl
theorem at99 (h : 0 < ({ data := #[99] } : ByteArray).size) : (({ data := #[99] } : ByteArray)[0]'h).toNat = 99 := rfl
theorem at100 (h : 0 < ({ data := #[100] } : ByteArray).size) : (({ data := #[100] } : ByteArray)[0]'h).toNat = 100 := rfl

theorem look_hit (q n cap P s k0 : Nat) (ind use : Bool) (ao : Option Addr) (B I : Nat → Nat) (w : World) (hn : n ≤ 512) (hs : s < 4)
    (h3 : w.cell? ⟨q, 3, none⟩ = some (.bool true)) (h2 : w.cell? ⟨q, 2, none⟩ = some (.slice ao n cap)) (hF : Funcs w ao n P B I)
    (hk : k0 < n) (hm : sameB (I k0) s use = true) (hno : ∀ j, j < k0 → sameB (I j) s use = false) :
    Calls Yba.prog 6 #[.iface 70 (.pointer (some ⟨q, 0, none⟩)), .bool ind, .pointer (if use then some ⟨P, 0, none⟩ else none), .string (nmB s)] w fun e w' =>
      (∃ g, e = .returned (.tuple #[.iface 44 (.pointer (some ⟨B k0, 0, none⟩)), .slice (some ⟨g, 0, none⟩) 1 1, .bool ind]) ∧ w'.cell? ⟨g, 0, none⟩ = some (.int .i64 k0)) ∧ Below w.heap.size w w' := by
  refine (look_iface q n cap P s ind use ao B I w hn hs h3 h2 hF).mono ?_
  rintro e w' ⟨⟨k, g, h1, h4, h5, rfl, h6⟩ | ⟨h1, rfl⟩, hb⟩
  · have e : k = k0 := by
      rcases Nat.lt_trichotomy k k0 with h | h | h
      · rw [hno k h] at h4; cases h4
      · exact h
      · rw [h5 k0 h] at hm; cases hm
    subst e
    exact ⟨⟨g, rfl, h6⟩, hb⟩
  · rw [h1 k0 hk] at hm; cases hm

theorem look_none (q n cap P s : Nat) (ind use : Bool) (ao : Option Addr) (B I : Nat → Nat) (w : World) (hn : n ≤ 512) (hs : s < 4)
    (h3 : w.cell? ⟨q, 3, none⟩ = some (.bool true)) (h2 : w.cell? ⟨q, 2, none⟩ = some (.slice ao n cap)) (hF : Funcs w ao n P B I)
    (hno : ∀ j, j < n → sameB (I j) s use = false) :
    Calls Yba.prog 6 #[.iface 70 (.pointer (some ⟨q, 0, none⟩)), .bool ind, .pointer (if use then some ⟨P, 0, none⟩ else none), .string (nmB s)] w fun e w' =>
      e = .returned (.tuple #[.nilIface, .slice none 0 0, .bool false]) ∧ Below w.heap.size w w' := by
  refine (look_iface q n cap P s ind use ao B I w hn hs h3 h2 hF).mono ?_
  rintro e w' ⟨⟨k, g, h1, h4, h5, rfl, h6⟩ | ⟨h1, rfl⟩, hb⟩
  · rw [hno k h1] at h4; cases h4
  · exact ⟨rfl, hb⟩

set_option maxRecDepth 100000 in
set_option maxHeartbeats 1000000 in
theorem iface_hit (ao : Option Addr) (n cap sel k0 : Nat) (use ind : Bool) (Z : Nat → Nat) (w : World) (hn : n ≤ 512) (hsel : sel ≤ 255) (h : Bytes w ao n Z)
    (hk0 : k0 < n) (hm0 : sameB (Z k0 % 4) (sel % 4) use = true) (hno : ∀ j, j < k0 → sameB (Z j % 4) (sel % 4) use = false) :
    Calls Yba.prog 4 #[.slice ao n cap, .int .u8 sel, .bool use, .bool ind] w fun e w' => e = .returned (.bool true) ∧ Below w.heap.size w w' := by
  have hmk := run_make_row' (P := Yba.prog) 40 44 (.pointer none) 8 Yba.underlying40 Yba.info44 rfl .i64 .i64 n (by omega) (by omega)
  have HB := hid h
  have HM0 := hid hm0
  have HNO := hid hno
  clear h hm0 hno
  go_enter Yba.func4, Yba.ntmps4
  go_wp2_with (go_at_call 5; refine (names_any _).mono ?_; rintro e W1 ⟨rfl, hb1⟩)
  have hst := Built.start W1 n (fun j => Z j % 4)
  have hbl := ((hb1.alloc hb1.size (.cells #[.string ⟨#[65]⟩, .string ⟨#[66]⟩, .string ⟨#[99]⟩, .string ⟨#[100]⟩] 24)).alloc (by simp; have := hb1.size; omega) (.cells #[.string ⟨#[112]⟩, .string ⟨#[112]⟩, .pointer none] 29)).alloc (by simp; have := hb1.size; omega) (.cells (madeCells #[.pointer none] n) 44)
  generalize ((W1.alloc (.cells #[.string ⟨#[65]⟩, .string ⟨#[66]⟩, .string ⟨#[99]⟩, .string ⟨#[100]⟩] 24)).alloc (.cells #[.string ⟨#[112]⟩, .string ⟨#[112]⟩, .pointer none] 29)).alloc (.cells (madeCells #[.pointer none] n) 44) = W2 at *
  have hN1 := hb1.size
  clear hmk hb1
  generalize W1.heap.size = N at *
  have HST := hid hst
  have HBL := hid hbl
  clear hst hbl
  go_loopw [34] (fun i wr => ∃ (k : Nat) (B : Nat → Nat), k ≤ n ∧ i = .int .i64 k ∧ Hid (Built wr N (N + 1) (N + 1 + 1) n k B (fun j => Z j % 4)) ∧ Hid (Below w.heap.size w wr)) (fun i _ => n - (intOf i).toNat)
  case atStart => exact ⟨0, _, Nat.zero_le _, rfl, HST, HBL⟩
  case round =>
    obtain ⟨k, B, hk, rfl, HR, HW⟩ := hrel
    by_cases hlt : k < n
    · obtain ⟨b, off, rfl, hbz, hbc⟩ := HB.out (by omega)
      obtain ⟨hbk, hbk'⟩ := hbc k hlt
      have cz := (HW.out.cell (p := ⟨b, off + k, none⟩) hbz).trans hbk
      have hi0' : (0 : Int) ≤ (k : Int) := Int.natCast_nonneg _
      have hi1 : (k : Int) < (n : Int) := by omega
      obtain ⟨m, hm⟩ : ∃ m, m = Z k % 4 := ⟨_, rfl⟩
      have hm4 : m < 4 := by omega
      have hme : ((Z k : Nat) : Int) % 4 = (m : Int) := by omega
      have cm := HR.out.names m hm4
      have rL := HR.out.row.cell hlt
      have fL := HR.out.row.frozen k
      have lL := HR.out.lt
      have HM := hid hm
      simp only [Nat.lt_irrefl, if_false] at rL
      clear hbk hbc hm
      go_wp2
      go_roundw
      case rel => exact ⟨k + 1, _, by omega, by go_num, by rw [HM.out]; exact HR.out.step (by omega), (HW.out.setCell (by show w.heap.size ≤ N + 1 + 1; omega) _).alloc (by have := HW.out.size; simpa using this) _⟩
      case measure => simp [intOf]; omega
    · have e : k = n := by omega
      subst e
      have hF : Funcs wr (some ⟨N + 1 + 1, 0, none⟩) k (N + 1) B (fun j => Z j % 4) := fun _ => ⟨_, rfl, fun j hj => ⟨by
        have := HR.out.row.cell hj
        simpa [hj] using this, (HR.out.objs j hj).1, Nat.mod_lt _ (by omega)⟩⟩
      obtain ⟨m, hm⟩ : ∃ m, m = sel % 4 := ⟨_, rfl⟩
      have hm4 : m < 4 := by omega
      have hme : ((sel : Nat) : Int) % 4 = (m : Int) := by omega
      have cm := HR.out.names m hm4
      have hb2 : Below wr.heap.size wr (wr.alloc (.cells #[.slice none 0 0, .slice none 0 0, .slice (some ⟨N + 1 + 1, 0, none⟩) k k, .bool true, .pointer none, .pointer none, .slice none 0 0] 75)) := (Below.refl _ _).alloc (Nat.le_refl _) _
      have HL := hid (look_hit wr.heap.size k k (N + 1) m k0 ind use (some ⟨N + 1 + 1, 0, none⟩) B (fun j => Z j % 4) (wr.alloc (.cells #[.slice none 0 0, .slice none 0 0, .slice (some ⟨N + 1 + 1, 0, none⟩) k k, .bool true, .pointer none, .pointer none, .slice none 0 0] 75)) hn hm4
        (by rw [World.cell?_alloc_at _ _ _ _ rfl]; rfl) (by rw [World.cell?_alloc_at _ _ _ _ rfl]; rfl) (hF.below hb2) hk0 (by rw [hm]; exact HM0.out) (by rw [hm]; exact HNO.out))
      have HBW := hid (HW.out.trans (hb2.mono HW.out.size))
      have HF := hid (hF.below hb2)
      rw [← hm] at HM0 HNO
      clear hF hm HST HBL hb2
      have hq1 := eql61_same
      have q65 := at65
      have q66 := at66
      have q99 := at99
      have q100 := at100
      have hv : use = true ∨ (use = false ∧ (m = 0 ∨ m = 1)) := by
        have := HM0.out
        simp [sameB] at this
        rcases this.2 with h | h
        · cases use
          · exact .inr ⟨rfl, by omega⟩
          · exact .inl rfl
        · exact .inl h
      have hZ0 : Z k0 % 4 = m := by have := HM0.out; simp [sameB] at this; exact this.1
      have HZN : Hid (∀ j, j < k0 → Z j % 4 ≠ m) := by
        intro j hj
        have h1 := HNO.out j hj
        have h2 := HM0.out
        intro e
        rw [e] at h1
        rw [hZ0, h1] at h2
        cases h2
      have HZI : Hid (∀ j, j < k0 → (((Z j : Nat) : Int) % 4 == (m : Int)) = false) := fun j hj => by
        have := HZN.out j hj
        simp; omega
      have HZ0I : Hid (((Z k0 : Nat) : Int) % 4 = (m : Int)) := by rw [Hid]; omega
      clear HM0 HNO HZN hZ0
      rcases hv with rfl | ⟨rfl, rfl | rfl⟩
      all_goals
        simp only [if_true, Bool.false_eq_true, if_false] at HL
        try simp only [nmB_0, nmB_1] at cm HL
        go_wp2_with fail
        refine HL.out.mono ?_
        rintro e W5 ⟨⟨g, rfl, cg⟩, hb5⟩
        have hbw5 := HBW.out.trans (hb5.mono (by have := HBW.out.size; exact this))
        have HF5 := hid (HF.out.below hb5)
        have HB5 := hid hbw5
        clear HL HF HBW hb5 hbw5
        go_wp2_with fail
        go_loop [84] (fun i => ∃ j : Nat, j ≤ k0 ∧ i = .int .i64 j) (fun i => k0 + 1 - (intOf i).toNat)
        case atStart => exact ⟨0, Nat.zero_le _, rfl⟩
        case round =>
          obtain ⟨j, hj, rfl⟩ := hrel
          obtain ⟨b, off, rfl, hbz, hbc⟩ := HB.out (by omega)
          obtain ⟨hbk, hbk'⟩ := hbc j (by omega)
          have cz := (HB5.out.cell (p := ⟨b, off + j, none⟩) hbz).trans hbk
          have hi0' : (0 : Int) ≤ (j : Int) := Int.natCast_nonneg _
          have hi1 : (j : Int) < (k : Int) := by omega
          clear hbk hbc
          by_cases hlt : j < k0
          · have hne := HZI.out j hlt
            try simp only [Int.natCast_zero, Int.natCast_one] at hne
            go_wp2
            go_round
            case rel => exact ⟨j + 1, by omega, by go_num⟩
            case measure => simp [intOf]; omega
          · have e : j = k0 := by omega
            subst e
            obtain ⟨g', hg', hcs⟩ := HF5.out (by omega)
            simp at hg'
            subst hg'
            have gk := (hcs j hk0).1
            have hze := HZ0I.out
            try simp only [Int.natCast_zero, Int.natCast_one] at hze
            clear hcs
            go_wp2_with fail
            have lg := World.block_lt_of_cell? W5 _ cg
            refine (eq_any g W5.heap.size 1 1 1 (fun _ => (j : Int)) (W5.alloc (.cells #[.int .i64 j] 3)) (by omega) (fun i hi => by
              have e : i = 0 := by omega
              subst e
              rw [World.cell?_alloc_lt W5 _ _ lg]; exact cg) (fun i hi => by
              have e : i = 0 := by omega
              subst e
              rw [World.cell?_alloc_at _ _ _ _ rfl]; rfl)).mono ?_
            rintro e W6 ⟨rfl, nd, rfl⟩
            go_wp2
            go_ret
            exact ⟨rfl, below_drewN (HB5.out.alloc HB5.out.size _) _⟩
set_option maxRecDepth 100000 in
set_option maxHeartbeats 1000000 in
theorem iface_none (ao : Option Addr) (n cap sel : Nat) (use ind : Bool) (Z : Nat → Nat) (w : World) (hn : n ≤ 512) (hsel : sel ≤ 255) (h : Bytes w ao n Z)
    (hno : ∀ j, j < n → sameB (Z j % 4) (sel % 4) use = false) :
    Calls Yba.prog 4 #[.slice ao n cap, .int .u8 sel, .bool use, .bool ind] w fun e w' => e = .returned (.bool true) ∧ Below w.heap.size w w' := by
  have hmk := run_make_row' (P := Yba.prog) 40 44 (.pointer none) 8 Yba.underlying40 Yba.info44 rfl .i64 .i64 n (by omega) (by omega)
  have HB := hid h
  have HNO := hid hno
  clear h hno
  go_enter Yba.func4, Yba.ntmps4
  go_wp2_with (go_at_call 5; refine (names_any _).mono ?_; rintro e W1 ⟨rfl, hb1⟩)
  have hst := Built.start W1 n (fun j => Z j % 4)
  have hbl := ((hb1.alloc hb1.size (.cells #[.string ⟨#[65]⟩, .string ⟨#[66]⟩, .string ⟨#[99]⟩, .string ⟨#[100]⟩] 24)).alloc (by simp; have := hb1.size; omega) (.cells #[.string ⟨#[112]⟩, .string ⟨#[112]⟩, .pointer none] 29)).alloc (by simp; have := hb1.size; omega) (.cells (madeCells #[.pointer none] n) 44)
  generalize ((W1.alloc (.cells #[.string ⟨#[65]⟩, .string ⟨#[66]⟩, .string ⟨#[99]⟩, .string ⟨#[100]⟩] 24)).alloc (.cells #[.string ⟨#[112]⟩, .string ⟨#[112]⟩, .pointer none] 29)).alloc (.cells (madeCells #[.pointer none] n) 44) = W2 at *
  have hN1 := hb1.size
  clear hmk hb1
  generalize W1.heap.size = N at *
  have HST := hid hst
  have HBL := hid hbl
  clear hst hbl
  go_loopw [34] (fun i wr => ∃ (k : Nat) (B : Nat → Nat), k ≤ n ∧ i = .int .i64 k ∧ Hid (Built wr N (N + 1) (N + 1 + 1) n k B (fun j => Z j % 4)) ∧ Hid (Below w.heap.size w wr)) (fun i _ => n - (intOf i).toNat)
  case atStart => exact ⟨0, _, Nat.zero_le _, rfl, HST, HBL⟩
  case round =>
    obtain ⟨k, B, hk, rfl, HR, HW⟩ := hrel
    by_cases hlt : k < n
    · obtain ⟨b, off, rfl, hbz, hbc⟩ := HB.out (by omega)
      obtain ⟨hbk, hbk'⟩ := hbc k hlt
      have cz := (HW.out.cell (p := ⟨b, off + k, none⟩) hbz).trans hbk
      have hi0' : (0 : Int) ≤ (k : Int) := Int.natCast_nonneg _
      have hi1 : (k : Int) < (n : Int) := by omega
      obtain ⟨m, hm⟩ : ∃ m, m = Z k % 4 := ⟨_, rfl⟩
      have hm4 : m < 4 := by omega
      have hme : ((Z k : Nat) : Int) % 4 = (m : Int) := by omega
      have cm := HR.out.names m hm4
      have rL := HR.out.row.cell hlt
      have fL := HR.out.row.frozen k
      have lL := HR.out.lt
      have HM := hid hm
      simp only [Nat.lt_irrefl, if_false] at rL
      clear hbk hbc hm
      go_wp2
      go_roundw
      case rel => exact ⟨k + 1, _, by omega, by go_num, by rw [HM.out]; exact HR.out.step (by omega), (HW.out.setCell (by show w.heap.size ≤ N + 1 + 1; omega) _).alloc (by have := HW.out.size; simpa using this) _⟩
      case measure => simp [intOf]; omega
    · have e : k = n := by omega
      subst e
      have hF : Funcs wr (some ⟨N + 1 + 1, 0, none⟩) k (N + 1) B (fun j => Z j % 4) := fun _ => ⟨_, rfl, fun j hj => ⟨by
        have := HR.out.row.cell hj
        simpa [hj] using this, (HR.out.objs j hj).1, Nat.mod_lt _ (by omega)⟩⟩
      obtain ⟨m, hm⟩ : ∃ m, m = sel % 4 := ⟨_, rfl⟩
      have hm4 : m < 4 := by omega
      have hme : ((sel : Nat) : Int) % 4 = (m : Int) := by omega
      have cm := HR.out.names m hm4
      have hb2 : Below wr.heap.size wr (wr.alloc (.cells #[.slice none 0 0, .slice none 0 0, .slice (some ⟨N + 1 + 1, 0, none⟩) k k, .bool true, .pointer none, .pointer none, .slice none 0 0] 75)) := (Below.refl _ _).alloc (Nat.le_refl _) _
      have HL := hid (look_none wr.heap.size k k (N + 1) m ind use (some ⟨N + 1 + 1, 0, none⟩) B (fun j => Z j % 4) (wr.alloc (.cells #[.slice none 0 0, .slice none 0 0, .slice (some ⟨N + 1 + 1, 0, none⟩) k k, .bool true, .pointer none, .pointer none, .slice none 0 0] 75)) hn hm4
        (by rw [World.cell?_alloc_at _ _ _ _ rfl]; rfl) (by rw [World.cell?_alloc_at _ _ _ _ rfl]; rfl) (hF.below hb2) (by rw [hm]; exact HNO.out))
      have HBW := hid (HW.out.trans (hb2.mono HW.out.size))
      have HF := hid (hF.below hb2)
      rw [← hm] at HNO
      clear hF hm HST HBL hb2
      have hq1 := eql61_same
      have q65 := at65
      have q66 := at66
      have q99 := at99
      have q100 := at100
      have hv : use = true ∨ (use = false ∧ (m = 0 ∨ m = 1 ∨ m = 2 ∨ m = 3)) := by
        cases use
        · exact .inr ⟨rfl, by omega⟩
        · exact .inl rfl
      have HZI : Hid (∀ j, j < k → use = true ∨ m < 2 → (((Z j : Nat) : Int) % 4 == (m : Int)) = false) := fun j hj hu => by
        have := HNO.out j hj
        simp [sameB] at this
        simp
        intro e
        have h := this (by omega)
        rcases hu with h' | h'
        · rw [h.2] at h'; cases h'
        · omega
      clear HNO
      have hnl := fun w => Lib.run_eql_slice_nil (P := Yba.prog) w 62 3 none 0 0 0 0 Yba.underlying62
      rcases hv with rfl | ⟨rfl, rfl | rfl | rfl | rfl⟩
      all_goals
        simp only [if_true, Bool.false_eq_true, if_false] at HL
        try simp only [nmB_0, nmB_1, nmB_2, nmB_3] at cm HL
        go_wp2_with fail
        refine HL.out.mono ?_
        rintro e W5 ⟨rfl, hb5⟩
        have hbw5 := HBW.out.trans (hb5.mono (by have := HBW.out.size; exact this))
        have HB5 := hid hbw5
        clear HL HF HBW hb5 hbw5
        go_wp2_with fail
        go_loop [84] (fun i => ∃ j : Nat, j ≤ k ∧ i = .int .i64 j) (fun i => k - (intOf i).toNat)
        case atStart => exact ⟨0, Nat.zero_le _, rfl⟩
        case round =>
          obtain ⟨j, hj, rfl⟩ := hrel
          by_cases hlt : j < k
          · obtain ⟨b, off, rfl, hbz, hbc⟩ := HB.out (by omega)
            obtain ⟨hbk, hbk'⟩ := hbc j (by omega)
            have cz := (HB5.out.cell (p := ⟨b, off + j, none⟩) hbz).trans hbk
            have hi0' : (0 : Int) ≤ (j : Int) := Int.natCast_nonneg _
            have hi1 : (j : Int) < (k : Int) := by omega
            clear hbk hbc
            have hne := HZI.out j hlt
            first | specialize hne (Or.inl rfl) | specialize hne (Or.inl trivial) | specialize hne (Or.inr (Nat.zero_lt_succ 1)) | specialize hne (Or.inr (Nat.lt_succ_self 1)) | clear hne
            try simp only [Int.natCast_zero, Int.natCast_one] at hne
            go_wp2
            go_round
            case rel => exact ⟨j + 1, by omega, by go_num⟩
            case measure => simp [intOf]; omega
          · go_wp2
            go_ret
            exact ⟨rfl, HB5.out⟩
end Go.Proofs.Ybulkhuy
