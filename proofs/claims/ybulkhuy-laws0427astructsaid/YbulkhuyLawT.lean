/-
  Walk of LawS0427AStruct (function 3): where no field bears the asked name.
-/
import Derived.Test.YbulkhuyLawF
namespace Go.Proofs.Ybulkhuy
open Go.RowKit

set_option maxRecDepth 100000 in
set_option maxHeartbeats 8000000 in
theorem rest_any : front.T := by
  intro ao cap sel M A0 A1 A2 use ind w hsel hM W1 k4 W2 N0 HN1 HLA Mk HMk wr0 u15 u16 u17 u58 u59 u60 u61 u62 u63 u64 u65 u66 u67 u68 u69 u70 u71 u72 u73 u74 u75 u76 u77 u78 u79 u80 u81 u82 u83 u84 u85 u86 u87 u88 u89 u90 u91 u92 u93 u94 u95 u96 u97 u98 u99 N S cp aom MB HW HR k3 k2 L W5 HL HLW u19 u20 u21 u22 u23 u106 u107 u108 u109 u110 u111 u112 u113 u114 u115 u116 u117 u118 u119 u120 u121 u122 u123 u124 u125 u126 u127 u128 u129 u130 u131 u132 u133 u134 u135 u136 u137 u138 u139 u140 u141 u142 u143 u144 u145 u146 u147 u148 u149 u150 u151 u152 u153 V m hm4 hme HMM pk HPK k1 ua ub wc u154 u155 u156 u157 u158 u159 u160 u161 u162 u163 u164 u165 u166 u167 u168 u169 u170 u171 u172 HBX HNX W8 obj ix ib Kq aq HB8 vb HSM HVB wr u33 u34 u188 u189 u190 u191 u192 u193 u194 u195 u196 u197 u198 u199 u200 u201 u202 u203 u204 p HW9 hn HFL h512 hk' hlt3 HV HB78 HVR hp hpk HC8 cc hcl la HOUT HLP HCC HLL HBF hq1 hpos
  have hcc0 : cc = 0 := by omega
  subst hcc0
  have HST5 := hid (A5.start wr (fun i => A1 i % 3) (fun i => A2 i % 3) ind)
  have hbw5 : Below wr.heap.size wr (((wr.alloc (.cells #[.int .i64 (-1), .int .i64 (-1), .int .i64 (-1)] 66)).alloc (.cells #[.bool false, .bool false, .bool false] 67)).alloc (.cells #[.bool false, .bool false, .bool false] 67)) := (((Below.refl _ wr).alloc (Nat.le_refl _) _).alloc (by simp) _).alloc (by simp; omega) _
  have HBA := hid hbw5
  clear hbw5 HLP hcl
  go_wp2_with fail
  obtain ⟨W9, hW9⟩ : ∃ W9, W9 = wr := ⟨_, rfl⟩
  obtain ⟨X, hX⟩ : ∃ X, X = wr.heap.size := ⟨_, rfl⟩
  generalize (((wr.alloc (.cells #[.int .i64 (-1), .int .i64 (-1), .int .i64 (-1)] 66)).alloc (.cells #[.bool false, .bool false, .bool false] 67)).alloc (.cells #[.bool false, .bool false, .bool false] 67)) = W11 at *
  rw [← hX] at HST5 HBA ⊢
  rw [← hW9] at HBA
  have HX9 : Hid (X = W9.heap.size) := by rw [Hid, hX, hW9]
  rw [← hW9] at HC8 HBF HW9
  clear hX hW9 hq1
  go_loopw [242] (fun i wx => ∃ q : Nat, q ≤ p ∧ i = .int .i64 q ∧ Hid (A5 wx X q (fun i => A1 i % 3) (fun i => A2 i % 3) ind) ∧ Hid (Below X W9 wx)) (fun i _ => p - (intOf i).toNat)
  case atStart => exact ⟨0, Nat.zero_le _, rfl, HST5, HBA⟩
  case round =>
    obtain ⟨q, hq, rfl, H5, HW5⟩ := hrel
    by_cases hqp : q < p
    · obtain ⟨b, off, rfl, hb, hbc⟩ := HFL.out (by omega)
      obtain ⟨f0, f1, f2, g0, g1, g2⟩ := hbc q hqp
      have hbx : Below w.heap.size w wr := HBF.out.trans (HW5.out.mono (by rw [HX9.out]; exact HBF.out.size))
      have z0 := (hbx.cell (p := ⟨b, off + q * 3, none⟩) hb).trans f0
      have z1 := (hbx.cell (p := ⟨b, off + q * 3 + 1, none⟩) hb).trans f1
      have z2 := (hbx.cell (p := ⟨b, off + q * 3 + 2, none⟩) hb).trans f2
      have lb : b < wr.heap.size := World.block_lt_of_cell? wr _ z0
      have hq0' : (0 : Int) ≤ (q : Int) := Int.natCast_nonneg _
      have hq1 : (q : Int) < (p : Int) := by omega
      obtain ⟨t, ht⟩ : ∃ t, t = A2 q % 3 := ⟨_, rfl⟩
      have ht3 : t < 3 := by omega
      have hte : ((A2 q : Nat) : Int) % 3 = (t : Int) := by omega
      have rF := H5.out.f.cell ht3
      have rD := H5.out.d.cell ht3
      have rI := H5.out.i.cell ht3
      have gF := H5.out.f.frozen t
      have gD := H5.out.d.frozen t
      have gI := H5.out.i.frozen t
      have lF := H5.out.f.lt
      have lD := H5.out.d.lt
      have lI := H5.out.i.lt
      have HTT := hid ht
      clear hbx f0 f1 f2 hbc ht
      by_cases h3 : A1 q % 3 = 0
      · have hke : ((A1 q : Nat) : Int) % 3 = 0 := by omega
        have H3 := hid h3
        clear h3
        go_wp2
        go_roundw
        case rel => exact ⟨q + 1, by omega, by go_num, H5.out.skip H3.out _, HW5.out.alloc (by have := H5.out.f.lt; omega) _⟩
        case measure => simp [intOf]; omega
      · cases hfi : fi (fun i => A1 i % 3) (fun i => A2 i % 3) t q with
        | none =>
          have e : fiI (fun i => A1 i % 3) (fun i => A2 i % 3) t q = -1 := by simp [fiI, hfi]
          rw [e] at rF
          rcases (show A1 q % 3 = 1 ∨ A1 q % 3 = 2 by omega) with h4 | h4
          all_goals
            have hke : ((A1 q : Nat) : Int) % 3 = ((A1 q % 3 : Nat) : Int) := by omega
            rw [h4] at hke
            simp at hke
            have H3 := hid h3
            have H4 := hid h4
            have HFI := hid hfi
            clear h3 h4 hfi e
            cases ind
            all_goals
              go_wp2
              go_roundw
              case rel => exact ⟨q + 1, by omega, by go_num, H5.out.first2 H3.out HTT.out.symm HFI.out (by simp [H4.out]) _, ((HW5.out.setCell (p := ⟨X, t, none⟩) (Nat.le_refl _) _).setCell (p := ⟨X + 1 + 1, t, none⟩) (by show X ≤ X + 1 + 1; omega) _).alloc (by have := H5.out.f.lt; simp; omega) _⟩
              case measure => simp [intOf]; omega
        | some x =>
          have e : fiI (fun i => A1 i % 3) (fun i => A2 i % 3) t q = (x : Int) := by simp [fiI, hfi]
          rw [e] at rF
          have hx0 : ¬ ((x : Int) < 0) := by omega
          have hke : ¬ (((A1 q : Nat) : Int) % 3 = 0) := by omega
          have H3 := hid h3
          have HFI := hid hfi
          clear h3 hfi e
          go_wp2
          go_roundw
          case rel => exact ⟨q + 1, by omega, by go_num, H5.out.again2 H3.out HTT.out.symm HFI.out _, (HW5.out.setCell (p := ⟨X + 1, t, none⟩) (by show X ≤ X + 1; omega) _).alloc (by have := H5.out.f.lt; simp; omega) _⟩
          case measure => simp [intOf]; omega
    · have e : q = p := by omega
      subst e
      have HT : Hid (∀ (a : Addr) (v : Value), wc.cell? a = some v → wr.cell? a = some v) := by
        intro a v ha
        have l1 := World.block_lt_of_cell? wc _ ha
        have h1 := (HB78.out.cell (p := a) (by simp; exact Nat.lt_succ_of_lt l1)).trans ((((Below.refl wc.heap.size wc).alloc (Nat.le_refl _) _).cell (p := a) l1).trans ha)
        have h2 := HC8.out a v h1
        have l2 := World.block_lt_of_cell? W9 _ h2
        exact (HW5.out.cell (p := a) (by rw [HX9.out]; exact l2)).trans h2
      have HT0 : Hid (∀ (a : Addr) (v : Value), w.cell? a = some v → wr.cell? a = some v) := by
        intro a v ha
        have h1 := (HBF.out.cell (p := a) (World.block_lt_of_cell? w _ ha)).trans ha
        have l2 := World.block_lt_of_cell? W9 _ h1
        exact (HW5.out.cell (p := a) (by rw [HX9.out]; exact l2)).trans h1
      have HT8 : Hid (∀ (a : Addr) (v : Value), W8.cell? a = some v → wr.cell? a = some v) := by
        intro a v ha
        have h2 := HC8.out a v ha
        exact (HW5.out.cell (p := a) (by rw [HX9.out]; exact World.block_lt_of_cell? W9 _ h2)).trans h2
      have HBE : Hid (Below w.heap.size w wr) := HBF.out.trans (HW5.out.mono (by rw [HX9.out]; exact HBF.out.size))
      go_wp2_with fail
      obtain ⟨W12, hW12⟩ : ∃ W12, W12 = wr := ⟨_, rfl⟩
      rw [← hW12] at HT HT0 HT8 HBE H5 ⊢
      clear hW12 HW5 HST5 HBA
      go_loopw [42, 43, 44, 45, 274] (fun c wv wi wb i wx => ∃ r : Nat, r ≤ q ∧ i = .int .i64 r ∧ c = .int .i64 ((lawSt (fun i => A1 i % 3) (fun i => A2 i % 3) (fun t => miF (M t % 16) m use) q r).1 : Nat) ∧ Hid (Want wx (lawSt (fun i => A1 i % 3) (fun i => A2 i % 3) (fun t => miF (M t % 16) m use) q r) ind (fun i => A1 i % 3) (fun i => A2 i % 3) (fun t => miF (M t % 16) m use) MB wv wi wb) ∧ Hid (Below W12.heap.size W12 wx)) (fun _ _ _ _ i _ => q - (intOf i).toNat)
      case atStart => exact ⟨0, Nat.zero_le _, rfl, rfl, .inl ⟨rfl, rfl, rfl, rfl⟩, Below.refl _ _⟩
      case round =>
        obtain ⟨r, hr, rfl, rfl, HWT, HW6⟩ := hrel
        have hst2 := lawSt_le (fun i => A1 i % 3) (fun i => A2 i % 3) (fun t => miF (M t % 16) m use) q r
        obtain ⟨st, hst⟩ : ∃ st, st = lawSt (fun i => A1 i % 3) (fun i => A2 i % 3) (fun t => miF (M t % 16) m use) q r := ⟨_, rfl⟩
        rw [← hst] at HWT hst2 ⊢
        have HST := hid hst
        clear hst
        by_cases hrq : r < q
        · obtain ⟨b, off, rfl, hb, hbc⟩ := HFL.out (by omega)
          obtain ⟨f0, f1, f2, g0, g1, g2⟩ := hbc r hrq
          have HU : Hid (∀ (a : Addr) (v : Value), W12.cell? a = some v → wr.cell? a = some v) := fun a v h => (HW6.out.cell (p := a) (World.block_lt_of_cell? W12 _ h)).trans h
          have z0 := HU.out _ _ (HT0.out _ _ f0)
          have z1 := HU.out _ _ (HT0.out _ _ f1)
          have z2 := HU.out _ _ (HT0.out _ _ f2)
          have lb : b < wr.heap.size := World.block_lt_of_cell? wr _ z0
          have hq0' : (0 : Int) ≤ (r : Int) := Int.natCast_nonneg _
          have hq1 : (r : Int) < (q : Int) := by omega
          obtain ⟨t, ht⟩ : ∃ t, t = A2 r % 3 := ⟨_, rfl⟩
          have ht3 : t < 3 := by omega
          have hte : ((A2 r : Nat) : Int) % 3 = (t : Int) := by omega
          have rF := HU.out _ _ (H5.out.f.cell ht3)
          have rD := HU.out _ _ (H5.out.d.cell ht3)
          have rI := HU.out _ _ (H5.out.i.cell ht3)
          have rM := HU.out _ _ (HT.out _ _ ((HNX.out.cell (p := ⟨Mk, t, none⟩) (World.block_lt_of_cell? _ _ (HR.out.masks t ht3))).trans (HR.out.masks t ht3)))
          have HTT := hid ht
          have hbw := HW6.out.alloc HW6.out.size (.cells #[.int .u8 (A0 r), .int .u8 (A1 r), .int .u8 (A2 r)] 53)
          have HBW := hid hbw
          have HWT2 := hid (HWT.out.below ((Below.refl wr.heap.size wr).alloc (Nat.le_refl _) (.cells #[.int .u8 (A0 r), .int .u8 (A1 r), .int .u8 (A2 r)] 53)))
          have lF : X < wr.heap.size := World.block_lt_of_cell? wr _ rF
          have lD : X + 1 < wr.heap.size := World.block_lt_of_cell? wr _ rD
          have lI : X + 1 + 1 < wr.heap.size := World.block_lt_of_cell? wr _ rI
          have lMk : Mk < wr.heap.size := World.block_lt_of_cell? wr _ rM
          clear f0 f1 f2 hbc ht hbw
          by_cases h3 : A1 r % 3 = 0
          · have hke : ((A1 r : Nat) : Int) % 3 = 0 := by omega
            have H3 := hid h3
            clear h3 rF rD rI rM
            go_wp2
            go_roundw
            case rel =>
              have e := lawSt_miss (fun i => A1 i % 3) (fun i => A2 i % 3) (fun t => miF (M t % 16) m use) q r (.inl H3.out)
              exact ⟨r + 1, by omega, by go_num, by rw [e, ← HST.out], by rw [e, ← HST.out]; exact HWT2.out, HBW.out⟩
            case measure => simp [intOf]; omega
          · have hke : ¬ (((A1 r : Nat) : Int) % 3 = 0) := by omega
            have H3 := hid h3
            clear h3
            by_cases hfr : fi (fun i => A1 i % 3) (fun i => A2 i % 3) t q = some r
            · have efi : fiI (fun i => A1 i % 3) (fun i => A2 i % 3) t q = (r : Int) := by simp [fiI, hfr]
              have efn : fin (fun i => A1 i % 3) (fun i => A2 i % 3) ind t q = (ind || decide (A1 r % 3 = 2)) := by simp [fin, hfr]
              rw [efi] at rF
              rw [efn] at rI
              have HFR := hid hfr
              obtain ⟨mk, hmk⟩ : ∃ mk, mk = M t % 16 := ⟨_, rfl⟩
              have hm16 : mk < 16 := by omega
              have hmke : ((M t : Nat) : Int) % 16 = (mk : Int) := by omega
              have hMt := hM t
              have HMK := hid hmk
              have hand := and_one mk hm16 m hm4
              clear hfr efi efn hmk
              by_cases hit : vb = true ∧ mk / 2 ^ m % 2 = 1
              · obtain ⟨hv, hbit⟩ := hit
                subst hv
                rw [hbit] at hand
                have HMI : Hid (miF (M t % 16) m use = some (bl mk m).length) := by
                  rw [Hid, ← HMK.out]
                  unfold miF
                  rw [if_pos]
                  rw [← HVB.out]
                  simp [bitB, hbit]
                have HV0 := hid (fun (a : Addr) (v : Value) h => HU.out a v (HT.out a v ((HNX.out.cell (p := a) (World.block_lt_of_cell? _ _ h)).trans h)))
                have hnd := (HR.out.nmd t ht3).1
                have hin := bl_in mk m hm16 hm4 hbit
                have cA := HV0.out _ _ (HR.out.arr.cell ht3)
                rw [if_pos ht3] at cA
                have cN := HV0.out ⟨N t, 2, none⟩ _ (cell_of_row _ (N t) 2 _ _ _ hnd.blk)
                simp at cN
                obtain ⟨g, eg, hgc⟩ := hnd.fns (by rw [← HMK.out]; omega)
                have cG := HV0.out _ _ (hgc (bl mk m).length (by rw [← HMK.out]; exact hin)).1
                rw [eg, ← HMK.out] at cN
                have lA : N0 + 1 + 1 < wr.heap.size := World.block_lt_of_cell? wr _ cA
                have lN : N t < wr.heap.size := World.block_lt_of_cell? wr _ cN
                have lG : g < wr.heap.size := World.block_lt_of_cell? wr _ cG
                have HIN := hid hin
                have HLE := hid (bl_len mk m)
                clear hbit hnd hgc hin eg
                obtain ⟨db, hdb⟩ : ∃ db, db = du (fun i => A1 i % 3) (fun i => A2 i % 3) t q := ⟨_, rfl⟩
                rw [← hdb] at rD
                have HDB := hid hdb
                clear hdb
                have hin' : (((bl mk m).length : Nat) : Int) < (((bl mk 4).length : Nat) : Int) := by have := HIN.out; omega
                obtain ⟨fb, hfb⟩ : ∃ fb, fb = (ind || decide (A1 r % 3 = 2)) := ⟨_, rfl⟩
                rw [← hfb] at rI
                have HFB := hid hfb
                clear hfb
                cases db
                all_goals
                  go_wp2
                  obtain ⟨W13, hW13⟩ : ∃ W13, W13 = wr.alloc (.cells #[.int .u8 (A0 r), .int .u8 (A1 r), .int .u8 (A2 r)] 53) := ⟨_, rfl⟩
                  have cA3 : W13.cell? ⟨N0 + 1 + 1, t, none⟩ = some (.pointer (some ⟨N t, 0, none⟩)) := by rw [hW13, World.cell?_alloc_past _ _ _ lA]; exact cA
                  have cN3 : W13.cell? ⟨N t, 2, none⟩ = some (.slice (some ⟨g, 0, none⟩) (bl mk 4).length (cp t)) := by rw [hW13, World.cell?_alloc_past _ _ _ lN]; exact cN
                  have cG3 : W13.cell? ⟨g, (bl mk m).length, none⟩ = some (.pointer (some ⟨MB t (bl mk m).length, 0, none⟩)) := by rw [hW13, World.cell?_alloc_past _ _ _ lG]; exact cG
                  have cI3 : W13.cell? ⟨X + 1 + 1, t, none⟩ = some (.bool fb) := by rw [hW13, World.cell?_alloc_past _ _ _ lI]; exact rI
                  have lA3 : N0 + 1 + 1 < W13.heap.size := World.block_lt_of_cell? W13 _ cA3
                  have lN3 : N t < W13.heap.size := World.block_lt_of_cell? W13 _ cN3
                  have lG3 : g < W13.heap.size := World.block_lt_of_cell? W13 _ cG3
                  have lI3 : X + 1 + 1 < W13.heap.size := World.block_lt_of_cell? W13 _ cI3
                  rw [← hW13] at HBW ⊢
                  clear hW13 cA cN cG rI rF rD rM z0 z1 z2 lb lF lD lI lMk lA lN lG
                  go_loopw [50, 51] (fun mi j wx => ∃ jj : Nat, jj ≤ m ∧ j = .int .i64 jj ∧ mi = .int .i64 ((bl mk jj).length : Nat) ∧ wx = W13) (fun _ j _ => m - (intOf j).toNat)
                  case atStart => exact ⟨0, Nat.zero_le _, rfl, rfl, rfl⟩
                  case round =>
                    obtain ⟨j, hj, rfl, rfl, hwx⟩ := hrel
                    subst hwx
                    have hbl := bl_len mk j
                    by_cases hjm : j < m
                    · have hand7 := and_one mk hm16 j (by omega)
                      have hj0' : (0 : Int) ≤ (j : Int) := Int.natCast_nonneg _
                      have hj1 : (j : Int) < (m : Int) := by omega
                      have hj2 : (j : Int) < 4 := by omega
                      by_cases hb7 : mk / 2 ^ j % 2 = 1
                      · rw [hb7] at hand7
                        have HB7 := hid hb7
                        clear hb7
                        go_wp2
                        go_roundw
                        case rel => exact ⟨j + 1, by omega, by go_num, by rw [bl_step1 _ _ HB7.out]; go_num, trivial⟩
                        case measure => simp [intOf]; omega
                      · have hb0 : mk / 2 ^ j % 2 = 0 := by omega
                        rw [hb0] at hand7
                        have HB7 := hid hb7
                        clear hb7 hb0
                        go_wp2
                        go_roundw
                        case rel => exact ⟨j + 1, by omega, by go_num, by rw [bl_step0 _ _ HB7.out], trivial⟩
                        case measure => simp [intOf]; omega
                    · have e : j = m := by omega
                      subst e
                      go_wp2
                      go_roundw
                      case rel =>
                        have e := lawSt_hit (fun i => A1 i % 3) (fun i => A2 i % 3) (fun t => miF (M t % 16) j use) q r H3.out (by rw [← HTT.out]; exact HFR.out) (bl mk j).length (by rw [← HTT.out]; exact HMI.out)
                        rw [← HST.out, ← HTT.out, ← HDB.out] at e
                        refine ⟨r + 1, by omega, by go_num, by rw [e]; go_num, ?_, HBW.out.alloc HBW.out.size _⟩
                        refine Want.hit e (by simp) HTT.out HMI.out rfl rfl (by rw [HFB.out]) ?_ ?_
                        · rw [World.cell?_alloc_at _ _ _ _ rfl]; rfl
                        · rw [World.cell?_alloc_at _ _ _ _ rfl]; rfl
                      case measure => simp [intOf]; omega
              · have HMI : Hid (miF (M t % 16) m use = none) := by
                  rw [Hid, ← HMK.out]
                  unfold miF
                  rw [if_neg]
                  rw [← HVB.out]
                  intro hc
                  simp [bitB] at hc
                  exact hit hc
                have hz : vb = true → mk / 2 ^ m % 2 = 0 := fun h => by
                  have : ¬ mk / 2 ^ m % 2 = 1 := fun h' => hit ⟨h, h'⟩
                  omega
                clear hit rD rI
                cases vb
                · clear hz
                  go_wp2
                  go_roundw
                  case rel =>
                    have e := lawSt_miss (fun i => A1 i % 3) (fun i => A2 i % 3) (fun t => miF (M t % 16) m use) q r (.inr (.inr (by rw [← HTT.out]; exact HMI.out)))
                    exact ⟨r + 1, by omega, by go_num, by rw [e, ← HST.out], by rw [e, ← HST.out]; exact HWT2.out, HBW.out⟩
                  case measure => simp [intOf]; omega
                · rw [hz rfl] at hand
                  clear hz
                  go_wp2
                  go_roundw
                  case rel =>
                    have e := lawSt_miss (fun i => A1 i % 3) (fun i => A2 i % 3) (fun t => miF (M t % 16) m use) q r (.inr (.inr (by rw [← HTT.out]; exact HMI.out)))
                    exact ⟨r + 1, by omega, by go_num, by rw [e, ← HST.out], by rw [e, ← HST.out]; exact HWT2.out, HBW.out⟩
                  case measure => simp [intOf]; omega
            · have hne : (fiI (fun i => A1 i % 3) (fun i => A2 i % 3) t q == (r : Int)) = false := by
                simp only [fiI]
                cases hf : fi (fun i => A1 i % 3) (fun i => A2 i % 3) t q with
                | none => simp
                | some x =>
                  rw [hf] at hfr
                  have : x ≠ r := fun e => hfr (by rw [e])
                  simp; omega
              have HFR := hid hfr
              obtain ⟨fx, hfx⟩ : ∃ fx, fx = fiI (fun i => A1 i % 3) (fun i => A2 i % 3) t q := ⟨_, rfl⟩
              rw [← hfx] at rF hne
              clear hfr hfx rD rI rM
              go_wp2
              go_roundw
              case rel =>
                have e := lawSt_miss (fun i => A1 i % 3) (fun i => A2 i % 3) (fun t => miF (M t % 16) m use) q r (.inr (.inl (by rw [← HTT.out]; exact HFR.out)))
                exact ⟨r + 1, by omega, by go_num, by rw [e, ← HST.out], by rw [e, ← HST.out]; exact HWT2.out, HBW.out⟩
              case measure => simp [intOf]; omega
        · have e : r = q := by omega
          subst e
          have hfold := lawSt_all (fun i => A1 i % 3) (fun i => A2 i % 3) (fun t => miF (M t % 16) m use) (fun i => sameB (A0 i % 4) m use) r HCC.out.symm
          rw [← HST.out] at hfold
          have HEND : Hid (Below w.heap.size w wr) := HBE.out.trans (HW6.out.mono HBE.out.size)
          have HU8 : Hid (∀ (a : Addr) (v : Value), W8.cell? a = some v → wr.cell? a = some v) := fun a v h => (HW6.out.cell (p := a) (World.block_lt_of_cell? W12 _ (HT8.out a v h))).trans (HT8.out a v h)
          rcases HOUT.out.1 with ⟨hz, _⟩ | ⟨_, hpos1, t, g, hmi, heq, hg0, hg1⟩ | ⟨_, hz1, heq⟩
          · exact absurd hz (Nat.lt_irrefl _)
          · rw [hfold] at hpos1 hmi heq hg0
            rcases HWT.out with ⟨h0, _⟩ | ⟨_, t', g', hmi', rfl, rfl, rfl, hw0, hw1⟩
            · omega
            · have et : t' = t := Option.some.inj (hmi'.symm.trans hmi)
              subst et
              have hEQ := eq_two g g' wr st.2 t' (HU8.out _ _ hg0) (HU8.out _ _ hg1) hw0 hw1
              have HEQ := hid hEQ
              obtain ⟨bb, hbb⟩ : ∃ bb, bb = (ind || decide (A1 st.2 % 3 = 2)) := ⟨_, rfl⟩
              rw [← hbb] at heq ⊢
              clear hEQ hg0 hg1 hw0 hw1 hmi hmi' hbb hfold
              by_cases h1 : 1 < st.1
              · simp [h1] at heq
                obtain ⟨rfl, rfl, rfl⟩ := heq
                have h1' : (1 : Int) < (st.1 : Int) := by omega
                clear HOUT HC8 HT HT0 HT8 HU8
                go_wp2_with (go_at_call 7; refine HEQ.out.mono ?_; rintro e W10 ⟨rfl, nd, rfl⟩)
                go_ret
                exact ⟨rfl, below_drewN HEND.out _⟩
              · have h1c : st.1 = 1 := by omega
                have hq2 := eql61_same
                rw [h1c]
                simp [h1c] at heq
                obtain ⟨rfl, rfl, rfl⟩ := heq
                clear HOUT HC8 HT HT0 HT8 HU8
                go_wp2_with (go_at_call 7; refine HEQ.out.mono ?_; rintro e W10 ⟨rfl, nd, rfl⟩)
                go_ret
                exact ⟨rfl, below_drewN HEND.out _⟩
          · rw [hfold] at hz1
            rcases HWT.out with ⟨h0, rfl, rfl, rfl⟩ | ⟨h0, _⟩
            · simp at heq
              obtain ⟨rfl, rfl, rfl⟩ := heq
              rw [h0]
              clear HOUT HC8 HT HT0 HT8 HU8 hfold
              have hnl := fun w => Lib.run_eql_slice_nil (P := Yba.prog) w 62 3 none 0 0 0 0 Yba.underlying62
              go_wp2
              go_ret
              exact ⟨rfl, HEND.out⟩
            · omega

theorem struct_any (ao : Option Addr) (n cap sel : Nat) (M A0 A1 A2 : Nat → Nat) (use ind : Bool) (w : World) (hn : n ≤ 512) (hsel : sel ≤ 255) (hM : ∀ k, M k ≤ 255) (hFl : Flds w ao n A0 A1 A2) :
    Calls Yba.prog 3 #[.slice ao n cap, .agg #[.int .u8 (M 0), .int .u8 (M 1), .int .u8 (M 2)], .int .u8 sel, .bool use, .bool ind] w (LawOut w) := front.go ⟨rest_any⟩ ao n cap sel M A0 A1 A2 use ind w hn hsel hM hFl
end Go.Proofs.Ybulkhuy
