/-
  Walk of lookupEmbedded (6) at a struct.
-/
import Derived.Test.YbulkhuyR2
namespace Go.Proofs.Ybulkhuy
open Go.RowKit
set_option linter.unusedSimpArgs false

set_option maxRecDepth 100000 in
set_option maxHeartbeats 4000000 in
theorem look_struct (q L n P s : Nat) (ind use : Bool) (V nm kd tg N S cn cp : Nat → Nat) (aom : Nat → Option Addr) (MB MI : Nat → Nat → Nat) (mi : Nat → Option Nat) (w : World) (hn : n ≤ 512) (hs : s < 4)
    (hq : w.cell? ⟨q, 0, none⟩ = some (.slice (some ⟨L, 0, none⟩) n n)) (hF : ∀ i, i < n → FieldAt w L P i V nm kd tg N)
    (hNm : ∀ k, k < 3 → NamedAt w P (N k) (S k) (aom k) (cn k) (cp k) (MB k) (MI k)) (hmi : ∀ k, k < 3 → Hit (MI k) s use (cn k) (match mi k with | some t => (t : Int) | none => -1))
    (htg : ∀ i, tg i < 3) (hinj : ∀ i j, i < 3 → j < 3 → N i = N j → i = j) :
    Calls Yba.prog 6 #[.iface 32 (.pointer (some ⟨q, 0, none⟩)), .bool ind, .pointer (if use then some ⟨P, 0, none⟩ else none), .string (nmB s)] w
      (OutS w (cntF (fun i => sameB (nm i) s use) n) (lastF (fun i => sameB (nm i) s use) n) (foldM mi tg (mergeM tg (embI (fun i => sameB (nm i) s use) kd n))) ind V kd tg mi MB) := by
  obtain ⟨sm, hsm⟩ : ∃ sm : Nat → Bool, sm = fun i => sameB (nm i) s use := ⟨_, rfl⟩
  rw [← hsm]
  have hmm := @run_makeMap Yba.prog
  obtain ⟨i0, hi, hz0, hz1, hz2⟩ := info_parts Yba.info78
  have HSC : Hid (∀ (W : World) (i : Nat), ObjAt W (V i) P (nm i) → nm i < 4 → Calls Yba.prog 11 #[.iface 54 (.pointer (some ⟨V i, 0, none⟩)), .pointer (if use then some ⟨P, 0, none⟩ else none), .string (nmB s)] W fun e w' => e = .returned (.bool (sm i)) ∧ W = w') := by
    intro W i ho h4
    rw [hsm]
    exact (same_any 54 (V i) P (nm i) s (.inr rfl) h4 hs use W ho).mono (fun e w' h => ⟨h.1, h.2.symm⟩)
  have HSM := hid hsm
  clear hsm
  obtain ⟨pk, hpk⟩ : ∃ pk : Option Addr, pk = if use then some ⟨P, 0, none⟩ else none := ⟨_, rfl⟩
  rw [← hpk] at HSC ⊢
  have HF := hid hF
  have HQ := hid hq
  have HNM := hid hNm
  have HMI := hid hmi
  have HTG := hid htg
  have HINJ := hid hinj
  have HPK := hid hpk
  clear hpk hF hq hNm hmi htg hinj
  go_enter Yba.func6, Yba.ntmps6
  go_wp2_with fail
  generalize hW : (w.alloc (.cells #[.iface 32 (.pointer (some ⟨q, 0, none⟩)), .slice none 0 0, .bool ind, .bool false] 78)).alloc (.map #[] 0) = W0
  obtain ⟨H, hH⟩ : ∃ H, H = w.heap.size := ⟨_, rfl⟩
  have HH := hid hH
  have cur0 : W0.cell? ⟨w.heap.size, 0, none⟩ = some (.iface 32 (.pointer (some ⟨q, 0, none⟩))) := by rw [← hW]; simp [World.cell?_alloc_past, World.cell?_alloc_at]
  have cur1 : W0.cell? ⟨w.heap.size, 1, none⟩ = some (.slice none 0 0) := by rw [← hW]; simp [World.cell?_alloc_past, World.cell?_alloc_at]
  have cur2 : W0.cell? ⟨w.heap.size, 2, none⟩ = some (.bool ind) := by rw [← hW]; simp [World.cell?_alloc_past, World.cell?_alloc_at]
  have cur3 : W0.cell? ⟨w.heap.size, 3, none⟩ = some (.bool false) := by rw [← hW]; simp [World.cell?_alloc_past, World.cell?_alloc_at]
  have HB0 : Hid (Below w.heap.size w W0) := by rw [Hid, ← hW]; exact ((Below.refl _ _).alloc (Nat.le_refl _) _).alloc (by simp) _
  have hz : W0.heap.size = w.heap.size + 1 + 1 := by rw [← hW]; simp
  have HMAP : Hid (W0.heap[w.heap.size + 1]? = some (.map #[] 0)) := by
    rw [Hid, ← hW]
    have := heap_alloc_new (w.alloc (.cells #[.iface 32 (.pointer (some ⟨q, 0, none⟩)), .slice none 0 0, .bool ind, .bool false] 78)) (.map #[] 0)
    simpa using this
  rw [← hH] at cur0 cur1 cur2 cur3 HB0 hz HMAP ⊢
  have HZ := hid hz
  clear hmm hH hW hz
  refine wp_loop_rounds 3 ?_
  rw [rounds_succ]
  go_wp2_with fail
  obtain ⟨hA, hB1, ho⟩ := acc_start W0
  have hs1 : ((((W0.alloc (.cells #[.nilIface] 61)).alloc (.cells #[.slice none 0 0] 62)).alloc (.cells #[.bool false] 4)).alloc (.cells #[.int .i64 0] 3)).heap.size = W0.heap.size + 1 + 1 + 1 + 1 := by simp
  generalize (((W0.alloc (.cells #[.nilIface] 61)).alloc (.cells #[.slice none 0 0] 62)).alloc (.cells #[.bool false] 4)).alloc (.cells #[.int .i64 0] 3) = W1 at *
  obtain ⟨C, hC⟩ : ∃ C, C = W0.heap.size := ⟨_, rfl⟩
  have hz := HZ.out
  clear HZ
  rw [← hC] at hA hB1 ho hz hs1 ⊢
  replace cur0 := (ho H 0 (by omega)).trans cur0
  replace cur1 := (ho H 1 (by omega)).trans cur1
  replace cur2 := (ho H 2 (by omega)).trans cur2
  replace cur3 := (ho H 3 (by omega)).trans cur3
  have HB1 : Hid (Below H w W1) := HB0.out.trans (hB1.mono (by omega))
  have HA := hid hA
  have HS1 := hid hs1
  have hHC : H + 1 < C := by omega
  have HMAP1 : Hid (W1.heap[H + 1]? = some (.map #[] 0)) := (hB1.block (H + 1) (by omega)).trans HMAP.out
  clear hA hB1 ho HB0 hC hs1 hz HMAP
  have t1 := ta_32_30
  have t2 := ta_32_32
  have lq : q < H := HH.out ▸ World.block_lt_of_cell? w _ HQ.out
  have cq : W1.cell? ⟨q, 0, none⟩ = some (.slice (some ⟨L, 0, none⟩) n n) := (HB1.out.cell (p := ⟨q, 0, none⟩) lq).trans HQ.out
  have lqW : q < W1.heap.size := by have := HS1.out; omega
  refine wp_loop_rounds 2 ?_
  rw [rounds_succ]
  go_wp2_with fail
  have hE := heap_alloc_new W1 (.cells #[.iface 32 (.pointer (some ⟨q, 0, none⟩)), .slice none 0 0, .bool ind, .bool false] 78)
  have hB2 : Below W1.heap.size W1 (W1.alloc (.cells #[.iface 32 (.pointer (some ⟨q, 0, none⟩)), .slice none 0 0, .bool ind, .bool false] 78)) := (Below.refl _ _).alloc (Nat.le_refl _) _
  have hs2 : (W1.alloc (.cells #[.iface 32 (.pointer (some ⟨q, 0, none⟩)), .slice none 0 0, .bool ind, .bool false] 78)).heap.size = W1.heap.size + 1 := by simp
  generalize W1.alloc (.cells #[.iface 32 (.pointer (some ⟨q, 0, none⟩)), .slice none 0 0, .bool ind, .bool false] 78) = W2 at *
  have hW2 : W2.heap.size = C + 5 := by rw [hs2, HS1.out]
  have hEe : W1.heap.size = C + 4 := HS1.out
  have hB1s := HB1.out.size
  rw [← HH.out] at hB1s
  have hA2 : Acc W2 (C + 1 + 1 + 1) C (C + 1) (C + 1 + 1) 0 .nilIface (.slice none 0 0) false := HA.out.kept (S := fun _ => False) ((Fr.refl _ _).below hB2) id id id id
  have HBW2 : Hid (Below H w W2) := HB1.out.trans (hB2.mono hB1s)
  have HMAP2 : Hid (W2.heap[H + 1]? = some (.map #[] 0)) := (hB2.block (H + 1) (by omega)).trans HMAP1.out
  rw [hEe] at hE ⊢
  have HE := hid hE
  have HST : Hid (R1 W2 W2 C 0 ind sm V kd tg N (.slice none 0 0)) := ⟨Fr.refl _ _, ⟨_, _, _, hA2, fun h => absurd h (by simp [cntF])⟩, fun _ => 0, by simpa [embI, embL, embCells] using World.ownsRow_nil W2 (C + 5) 78 4, fun _ => rfl, fun j hj => by simp [embI] at hj⟩
  have HW2 := hid hW2
  clear hE hB2 hs2 hW2 hEe hA2 cur0 cur1 cur2 cur3 cq lqW HA HB1 HS1 hB1s t1 t2 HMAP1
  go_loopw [13, 97] (fun v i wr => ∃ (k : Nat) (ao : Option Addr) (c : Nat), k ≤ n ∧ i = .int .i64 k ∧ v = .slice ao (embI sm kd k).length c ∧ Hid (R1 W2 wr C k ind sm V kd tg N (.slice ao (embI sm kd k).length c))) (fun _ i _ => n - (intOf i).toNat)
  case atStart => exact ⟨0, none, 0, Nat.zero_le _, rfl, rfl, HST⟩
  case round =>
    obtain ⟨k, ao, c, hk, rfl, rfl, HR⟩ := hrel
    have hbw : Below H w wr := HBW2.out.trans (HR.out.fr.to_below (by have := HW2.out; omega) (fun j hj => by omega))
    by_cases hlt : k < n
    · have fA := (HF.out k hlt).below (HH.out ▸ hbw) (Nat.le_refl _)
      have fc := fA.c
      have fe := fA.e
      have HCS := hid (HSC.out wr k fA.o fA.n4)
      have hEr : wr.heap[C + 4]? = _ := (HR.out.fr.block (C + 4) (by have := HW2.out; omega) (by omega)).trans HE.out
      have e0 : wr.cell? ⟨C + 4, 0, none⟩ = some (.iface 32 (.pointer (some ⟨q, 0, none⟩))) := by simp [World.cell?, hEr]
      have e1 : wr.cell? ⟨C + 4, 1, none⟩ = some (.slice none 0 0) := by simp [World.cell?, hEr]
      have e2 : wr.cell? ⟨C + 4, 2, none⟩ = some (.bool ind) := by simp [World.cell?, hEr]
      have e3 : wr.cell? ⟨C + 4, 3, none⟩ = some (.bool false) := by simp [World.cell?, hEr]
      have hCw : C + 4 < wr.heap.size := lt_of_block hEr
      have hi0' : (0 : Int) ≤ (k : Int) := Int.natCast_nonneg _
      have hi1 : (k : Int) < (n : Int) := by omega
      have hcn := cntF_le sm k
      have HFA := hid fA
      clear hEr fA hbw
      by_cases hs1 : sm k = true
      · obtain ⟨obj, ix, ind', hA, _⟩ := HR.out.acc
        have HA := hid hA
        have HS1 := hid hs1
        rw [hs1] at HCS
        clear hA hs1 fe
        go_wp2_with (first | (go_at_call 11; refine HCS.out.mono ?_; rintro e w' ⟨rfl, rfl⟩) | (go_at_call 8; refine (note_nil _ 54 (V k) ind ind' k (cntF sm k) (C + 1 + 1 + 1) C (C + 1) (C + 1 + 1) obj ix _ HA.out (by omega) (by omega)).mono ?_; rintro e W5 ⟨rfl, hA5, hI5, hF5⟩))
        have hR5 := HR.out.hit HS1.out hA5 hI5 hF5
        have ee : embI sm kd (k + 1) = embI sm kd k := by simp [embI, HS1.out]
        have HR5 := hid hR5
        have HEE := hid ee
        clear hR5 hA5 hI5 hF5 HR ee
        go_roundw
        case rel => exact ⟨k + 1, ao, c, by omega, by go_num, by rw [HEE.out], by rw [HEE.out]; exact HR5⟩
        case measure => simp [intOf]; omega
      · have hs0 : sm k = false := by simpa using hs1
        have HS0 := hid hs0
        rw [hs0] at HCS
        clear hs0 hs1
        rcases (show kd k = 0 ∨ kd k = 1 ∨ kd k = 2 from by have := HFA.out.k3; omega) with hk0 | hk1 | hk2
        · rw [hk0] at fe
          simp only [ne_eq, not_true_eq_false, decide_false] at fe
          have hR5 := HR.out.skip HS0.out hk0
          have ee : embI sm kd (k + 1) = embI sm kd k := by simp [embI, hk0]
          have HR5 := hid hR5
          have HEE := hid ee
          clear hR5 HR ee hk0 e0 e1 e2 e3
          go_wp2_with (go_at_call 11; refine HCS.out.mono ?_; rintro e w' ⟨rfl, rfl⟩)
          go_roundw
          case rel => exact ⟨k + 1, ao, c, by omega, by go_num, by rw [HEE.out], by rw [HEE.out]; exact HR5⟩
          case measure => simp [intOf]; omega
        · rw [hk1] at fe
          simp only [ne_eq, Nat.one_ne_zero, not_false_eq_true, decide_true] at fe
          have ft := HFA.out.t1 hk1
          have ta := ta_30_57
          obtain ⟨G, ho, hnil, hG⟩ := HR.out.nxt
          have HO := hid ho
          have HK := hid hk1
          have HG := hid hG
          have hml := embI_length sm kd k
          clear ho hk1 hG hnil e0
          generalize hm : (embI sm kd k).length = m at *
          have HM := hid hm
          clear hm
          cases ind
          · go_wp2_with (go_at_call 11; refine HCS.out.mono ?_; rintro e w' ⟨rfl, rfl⟩)
            have hnew : ((wr.alloc (.cells #[.int .i64 k] 3)).alloc (.cells #[.iface 30 (.pointer (some ⟨N (tg k), 0, none⟩)), .slice (some ⟨wr.heap.size, 0, none⟩) 1 1, .bool false, .bool false] 78)).heap[wr.heap.size + 1]? = some (.cells #[.iface 30 (.pointer (some ⟨N (tg k), 0, none⟩)), .slice (some ⟨wr.heap.size, 0, none⟩) 1 1, .bool false, .bool false] 78 (0, 0)) := by
              have := heap_alloc_new (wr.alloc (.cells #[.int .i64 k] 3)) (.cells #[.iface 30 (.pointer (some ⟨N (tg k), 0, none⟩)), .slice (some ⟨wr.heap.size, 0, none⟩) 1 1, .bool false, .bool false] 78)
              simpa using this
            have HNW := hid hnew
            clear hnew
            go_region_held3 (fun w' => w'.cell? ⟨C + 4, 1, none⟩ = some (.slice none 0 0) ∧ w'.cell? ⟨C + 4, 2, none⟩ = some (.bool false) ∧ w'.cell? ⟨C + 4, 3, none⟩ = some (.bool false))
              (first
                | go_keep
                | (go_split_ands; refine ⟨?_, ?_, ?_⟩ <;> (rw [hgrow.cell_far _ (by simp; omega) (fun e => by have := HO.out.lt (C + 4) e.symm; omega)]; assumption)))
              (first
                | (refine step_append_lies _ (by rfl) _ _ _ (by rfl) (C + 5) 78 i0 _ 4 48 Yba.underlying79 hi hz0 hz1 hz2 rfl (by omega) (.slice ao m c) m _ (by rfl) (((HO.out.alloc _).alloc _).drew) ⟨wr.heap.size + 1, 0, none⟩ 1 1 [.iface 30 (.pointer (some ⟨N (tg k), 0, none⟩)), .slice (some ⟨wr.heap.size, 0, none⟩) 1 1, .bool false, .bool false] (by rfl) (by rfl) (World.news_of_block (cs := #[.iface 30 (.pointer (some ⟨N (tg k), 0, none⟩)), .slice (some ⟨wr.heap.size, 0, none⟩) 1 1, .bool false, .bool false]) (t := 78) (fr := (0, 0)) HNW.out) (by simp [Value.oneCell']) (by omega) (by unfold maxLen; omega) (by omega) (by simp; omega) (wr.heap.size + 1 + 1) (by simp) ?_; intro g' cap' W5 hown5 hgrow hat5 hlt5)
                | (go_at_call 9; refine (appendIndex_nil k _).mono ?_; rintro e w' ⟨rfl, rfl⟩))
            obtain rfl := HM.out
            have hR5 := HR.out.emb HS0.out (by rw [HK.out]; decide) rfl HW2.out rfl HO.out HG.out (by simpa [HK.out] using hown5) hgrow
            have ee : (embI sm kd (k + 1)).length = (embI sm kd k).length + 1 := by simp [embI, HS0.out, HK.out]
            have HR5 := hid hR5
            have HEE := hid ee
            clear hR5 hown5 hgrow hat5 HR ee HO HG HNW e1 e2 e3 fc fe ft
            go_wp2
            go_roundw
            case rel => exact ⟨k + 1, some ⟨g', 0, none⟩, cap', by omega, by go_num, by rw [HEE.out], by rw [HEE.out]; exact HR5⟩
            case measure => simp [intOf]; omega
          · go_wp2_with (go_at_call 11; refine HCS.out.mono ?_; rintro e w' ⟨rfl, rfl⟩)
            have hnew : ((wr.alloc (.cells #[.int .i64 k] 3)).alloc (.cells #[.iface 30 (.pointer (some ⟨N (tg k), 0, none⟩)), .slice (some ⟨wr.heap.size, 0, none⟩) 1 1, .bool true, .bool false] 78)).heap[wr.heap.size + 1]? = some (.cells #[.iface 30 (.pointer (some ⟨N (tg k), 0, none⟩)), .slice (some ⟨wr.heap.size, 0, none⟩) 1 1, .bool true, .bool false] 78 (0, 0)) := by
              have := heap_alloc_new (wr.alloc (.cells #[.int .i64 k] 3)) (.cells #[.iface 30 (.pointer (some ⟨N (tg k), 0, none⟩)), .slice (some ⟨wr.heap.size, 0, none⟩) 1 1, .bool true, .bool false] 78)
              simpa using this
            have HNW := hid hnew
            clear hnew
            refine wp_region_held_drew (S := fun w' => w'.cell? ⟨C + 4, 1, none⟩ = some (.slice none 0 0) ∧ w'.cell? ⟨C + 4, 2, none⟩ = some (.bool true) ∧ w'.cell? ⟨C + 4, 3, none⟩ = some (.bool false)) (by kernel_rfl) (by go_keep) (fun hHeld => ?_)
            refine wpAnyH_take (i := 0) (v := ?_) rfl (by kernel_rfl) (by kernel_rfl) (by kernel_rfl) (fun _ _ _ h => h) (Or.inl ⟨by rfl, ?_⟩) (by assumption) ?_
            rotate_left
            · (intro wx hSw; (try dsimp only at hSw); go_simp; try (with_reducible rfl))
            try simp only [Act.put, List.setIfInBounds_toArray, List.set_cons_zero, List.set_cons_succ]
            refine wpAnyH_take (i := 1) (v := ?_) rfl (by kernel_rfl) (by kernel_rfl) (by kernel_rfl) (fun _ _ _ h => h) (Or.inl ⟨by rfl, ?_⟩) (by assumption) ?_
            rotate_left
            · (intro wx hSw; (try dsimp only at hSw); go_simp; try (with_reducible rfl))
            try simp only [Act.put, List.setIfInBounds_toArray, List.set_cons_zero, List.set_cons_succ]
            refine wpAnyH_take (i := 2) (v := ?_) rfl (by kernel_rfl) (by kernel_rfl) (by kernel_rfl) (fun _ _ _ h => h) (Or.inl ⟨by rfl, ?_⟩) (by assumption) ?_
            rotate_left
            · (intro wx hSw; (try dsimp only at hSw); go_simp; try (with_reducible rfl))
            try simp only [Act.put, List.setIfInBounds_toArray, List.set_cons_zero, List.set_cons_succ]
            refine wpAnyH_take (i := 3) (v := ?_) rfl (by kernel_rfl) (by kernel_rfl) (by kernel_rfl) (fun _ _ _ h => h) (Or.inl ⟨by rfl, ?_⟩) (by assumption) ?_
            rotate_left
            · (intro wx hSw; (try dsimp only at hSw); go_simp; try (with_reducible rfl))
            try simp only [Act.put, List.setIfInBounds_toArray, List.set_cons_zero, List.set_cons_succ]
            refine wpAnyH_take (i := 4) (v := ?_) rfl (by kernel_rfl) (by kernel_rfl) (by kernel_rfl) (fun _ _ _ h => h) (Or.inl ⟨by rfl, ?_⟩) (by assumption) ?_
            rotate_left
            · (intro wx hSw; (try dsimp only at hSw); go_simp; try (with_reducible rfl))
            try simp only [Act.put, List.setIfInBounds_toArray, List.set_cons_zero, List.set_cons_succ]
            refine wpAnyH_take (i := 6) (v := ?_) rfl (by kernel_rfl) (by kernel_rfl) (by kernel_rfl) (fun _ _ _ h => h) (Or.inl ⟨by rfl, ?_⟩) (by assumption) ?_
            rotate_left
            · (intro wx hSw; (try dsimp only at hSw); go_simp; try (with_reducible rfl))
            try simp only [Act.put, List.setIfInBounds_toArray, List.set_cons_zero, List.set_cons_succ]
            refine wpAnyH_take (i := 7) (v := ?_) rfl (by kernel_rfl) (by kernel_rfl) (by kernel_rfl) (fun _ _ _ h => h) (Or.inl ⟨by rfl, ?_⟩) (by assumption) ?_
            rotate_left
            · (intro wx hSw; (try dsimp only at hSw); go_simp; try (with_reducible rfl))
            try simp only [Act.put, List.setIfInBounds_toArray, List.set_cons_zero, List.set_cons_succ]
            refine wpAnyH_take (i := 11) (v := ?_) rfl (by kernel_rfl) (by kernel_rfl) (by kernel_rfl) (fun _ _ _ h => h) (Or.inl ⟨by rfl, ?_⟩) (by assumption) ?_
            rotate_left
            · (intro wx hSw; (try dsimp only at hSw); go_simp; try (with_reducible rfl))
            try simp only [Act.put, List.setIfInBounds_toArray, List.set_cons_zero, List.set_cons_succ]
            refine wpAnyH_take (i := 12) (v := ?_) rfl (by kernel_rfl) (by kernel_rfl) (by kernel_rfl) (fun _ _ _ h => h) (Or.inl ⟨by rfl, ?_⟩) (by assumption) ?_
            rotate_left
            · (intro wx hSw; (try dsimp only at hSw); go_simp; try (with_reducible rfl))
            try simp only [Act.put, List.setIfInBounds_toArray, List.set_cons_zero, List.set_cons_succ]
            refine wpAnyH_ready (rs := [5]) (by kernel_rfl) (by simp) (AllReadyH.cons rfl (fun K hK => ?_) AllReadyH.nil)
            go_simp
            refine (appendIndex_nil k _).mono ?_
            rintro e w' ⟨rfl, rfl⟩
            refine hK.out _ _ (by go_keep) (fun hHeld2 => ?_)
            clear hK K hHeld
            try simp only [Act.put, List.setIfInBounds_toArray, List.set_cons_zero, List.set_cons_succ]
            refine wpAnyH_take (i := 8) (v := ?_) rfl (by kernel_rfl) (by kernel_rfl) (by kernel_rfl) (fun _ _ _ h => h) (Or.inl ⟨by rfl, ?_⟩) (by assumption) ?_
            rotate_left
            · (intro wx hSw; (try dsimp only at hSw); go_simp; try (with_reducible rfl))
            try simp only [Act.put, List.setIfInBounds_toArray, List.set_cons_zero, List.set_cons_succ]
            refine wpAnyH_take (i := 9) (v := undef) rfl (by kernel_rfl) (by kernel_rfl) (by kernel_rfl) (fun _ _ _ h => h) (Or.inr ⟨by rfl, rfl⟩) (by assumption) ?_
            try simp only [Act.put, List.setIfInBounds_toArray, List.set_cons_zero, List.set_cons_succ]
            refine wpAnyH_take (i := 10) (v := ?_) rfl (by kernel_rfl) (by kernel_rfl) (by kernel_rfl) (fun _ _ _ h => h) (Or.inl ⟨by rfl, ?_⟩) (by assumption) ?_
            rotate_left
            · (intro wx hSw; (try dsimp only at hSw); go_simp; try (with_reducible rfl))
            try simp only [Act.put, List.setIfInBounds_toArray, List.set_cons_zero, List.set_cons_succ]
            refine wpAnyH_take (i := 13) (v := ?_) rfl (by kernel_rfl) (by kernel_rfl) (by kernel_rfl) (fun _ _ _ h => h) (Or.inl ⟨by rfl, ?_⟩) (by assumption) ?_
            rotate_left
            · (intro wx hSw; (try dsimp only at hSw); go_simp; try (with_reducible rfl))
            try simp only [Act.put, List.setIfInBounds_toArray, List.set_cons_zero, List.set_cons_succ]
            refine wpAnyH_ready (rs := [14]) (by kernel_rfl) (by simp) (AllReadyH.cons rfl (fun K hK => ?_) AllReadyH.nil)
            go_simp
            refine hK.out _ _ (by go_keep) (fun hHeld3 => ?_)
            clear hK K hHeld2
            try simp only [Act.put, List.setIfInBounds_toArray, List.set_cons_zero, List.set_cons_succ]
            refine wpAnyH_ready (rs := [15]) (by kernel_rfl) (by simp) (AllReadyH.cons rfl (fun K hK => ?_) AllReadyH.nil)
            refine step_append_lies _ (by rfl) _ _ _ (by rfl) (C + 5) 78 i0 _ 4 48 Yba.underlying79 hi hz0 hz1 hz2 rfl (by omega) (.slice ao m c) m _ (by rfl) (((HO.out.alloc _).alloc _).drew) ⟨wr.heap.size + 1, 0, none⟩ 1 1 [.iface 30 (.pointer (some ⟨N (tg k), 0, none⟩)), .slice (some ⟨wr.heap.size, 0, none⟩) 1 1, .bool true, .bool false] (by rfl) (by rfl) (World.news_of_block (cs := #[.iface 30 (.pointer (some ⟨N (tg k), 0, none⟩)), .slice (some ⟨wr.heap.size, 0, none⟩) 1 1, .bool true, .bool false]) (t := 78) (fr := (0, 0)) HNW.out) (by simp [Value.oneCell']) (by omega) (by unfold maxLen; omega) (by omega) (by simp; omega) (wr.heap.size + 1 + 1) (by simp) ?_
            intro g' cap' W5 hown5 hgrow hat5 hlt5
            refine hK.out _ _ (by go_split_ands; refine ⟨?_, ?_, ?_⟩ <;> (rw [hgrow.cell_far _ (by simp; omega) (fun e => by have := HO.out.lt (C + 4) e.symm; omega)]; assumption)) (fun hHeld4 => ?_)
            clear hK K hHeld3
            try simp only [Act.put, List.setIfInBounds_toArray, List.set_cons_zero, List.set_cons_succ]
            refine wpAnyH_take (i := 16) (v := ?_) rfl (by kernel_rfl) (by kernel_rfl) (by kernel_rfl) (fun _ _ _ h => h) (Or.inl ⟨by rfl, ?_⟩) (by assumption) ?_
            rotate_left
            · (intro wx hSw; (try dsimp only at hSw); go_simp; try (with_reducible rfl))
            try simp only [Act.put, List.setIfInBounds_toArray, List.set_cons_zero, List.set_cons_succ]
            refine wpAnyH_done (by kernel_rfl) ?_ _
            clear hHeld4
            obtain rfl := HM.out
            have hR5 := HR.out.emb HS0.out (by rw [HK.out]; decide) rfl HW2.out rfl HO.out HG.out (by simpa [HK.out] using hown5) hgrow
            have ee : (embI sm kd (k + 1)).length = (embI sm kd k).length + 1 := by simp [embI, HS0.out, HK.out]
            have HR5 := hid hR5
            have HEE := hid ee
            clear hR5 hown5 hgrow hat5 HR ee HO HG HNW e1 e2 e3 fc fe ft
            go_wp2
            go_roundw
            case rel => exact ⟨k + 1, some ⟨g', 0, none⟩, cap', by omega, by go_num, by rw [HEE.out], by rw [HEE.out]; exact HR5⟩
            case measure => simp [intOf]; omega
        · rw [hk2] at fe
          simp only [ne_eq, Nat.reduceEqDiff, not_false_eq_true, decide_true] at fe
          obtain ⟨Q, ft, fq⟩ := HFA.out.t2 hk2
          have ta := ta_57_57
          obtain ⟨G, ho, hnil, hG⟩ := HR.out.nxt
          have HO := hid ho
          have HK := hid hk2
          have HG := hid hG
          have hml := embI_length sm kd k
          clear ho hk2 hG hnil e0
          generalize hm : (embI sm kd k).length = m at *
          have HM := hid hm
          clear hm
          cases ind
          · go_wp2_with (go_at_call 11; refine HCS.out.mono ?_; rintro e w' ⟨rfl, rfl⟩)
            have hnew : ((wr.alloc (.cells #[.int .i64 k] 3)).alloc (.cells #[.iface 30 (.pointer (some ⟨N (tg k), 0, none⟩)), .slice (some ⟨wr.heap.size, 0, none⟩) 1 1, .bool true, .bool false] 78)).heap[wr.heap.size + 1]? = some (.cells #[.iface 30 (.pointer (some ⟨N (tg k), 0, none⟩)), .slice (some ⟨wr.heap.size, 0, none⟩) 1 1, .bool true, .bool false] 78 (0, 0)) := by
              have := heap_alloc_new (wr.alloc (.cells #[.int .i64 k] 3)) (.cells #[.iface 30 (.pointer (some ⟨N (tg k), 0, none⟩)), .slice (some ⟨wr.heap.size, 0, none⟩) 1 1, .bool true, .bool false] 78)
              simpa using this
            have HNW := hid hnew
            clear hnew
            go_region_held3 (fun w' => w'.cell? ⟨C + 4, 1, none⟩ = some (.slice none 0 0) ∧ w'.cell? ⟨C + 4, 2, none⟩ = some (.bool false) ∧ w'.cell? ⟨C + 4, 3, none⟩ = some (.bool false))
              (first
                | go_keep
                | (go_split_ands; refine ⟨?_, ?_, ?_⟩ <;> (rw [hgrow.cell_far _ (by simp; omega) (fun e => by have := HO.out.lt (C + 4) e.symm; omega)]; assumption)))
              (first
                | (refine step_append_lies _ (by rfl) _ _ _ (by rfl) (C + 5) 78 i0 _ 4 48 Yba.underlying79 hi hz0 hz1 hz2 rfl (by omega) (.slice ao m c) m _ (by rfl) (((HO.out.alloc _).alloc _).drew) ⟨wr.heap.size + 1, 0, none⟩ 1 1 [.iface 30 (.pointer (some ⟨N (tg k), 0, none⟩)), .slice (some ⟨wr.heap.size, 0, none⟩) 1 1, .bool true, .bool false] (by rfl) (by rfl) (World.news_of_block (cs := #[.iface 30 (.pointer (some ⟨N (tg k), 0, none⟩)), .slice (some ⟨wr.heap.size, 0, none⟩) 1 1, .bool true, .bool false]) (t := 78) (fr := (0, 0)) HNW.out) (by simp [Value.oneCell']) (by omega) (by unfold maxLen; omega) (by omega) (by simp; omega) (wr.heap.size + 1 + 1) (by simp) ?_; intro g' cap' W5 hown5 hgrow hat5 hlt5)
                | (go_at_call 9; refine (appendIndex_nil k _).mono ?_; rintro e w' ⟨rfl, rfl⟩))
            obtain rfl := HM.out
            have hR5 := HR.out.emb HS0.out (by rw [HK.out]; decide) rfl HW2.out rfl HO.out HG.out (by simpa [HK.out] using hown5) hgrow
            have ee : (embI sm kd (k + 1)).length = (embI sm kd k).length + 1 := by simp [embI, HS0.out, HK.out]
            have HR5 := hid hR5
            have HEE := hid ee
            clear hR5 hown5 hgrow hat5 HR ee HO HG HNW e1 e2 e3 fc fe ft
            go_wp2
            go_roundw
            case rel => exact ⟨k + 1, some ⟨g', 0, none⟩, cap', by omega, by go_num, by rw [HEE.out], by rw [HEE.out]; exact HR5⟩
            case measure => simp [intOf]; omega
          · go_wp2_with (go_at_call 11; refine HCS.out.mono ?_; rintro e w' ⟨rfl, rfl⟩)
            have hnew : ((wr.alloc (.cells #[.int .i64 k] 3)).alloc (.cells #[.iface 30 (.pointer (some ⟨N (tg k), 0, none⟩)), .slice (some ⟨wr.heap.size, 0, none⟩) 1 1, .bool true, .bool false] 78)).heap[wr.heap.size + 1]? = some (.cells #[.iface 30 (.pointer (some ⟨N (tg k), 0, none⟩)), .slice (some ⟨wr.heap.size, 0, none⟩) 1 1, .bool true, .bool false] 78 (0, 0)) := by
              have := heap_alloc_new (wr.alloc (.cells #[.int .i64 k] 3)) (.cells #[.iface 30 (.pointer (some ⟨N (tg k), 0, none⟩)), .slice (some ⟨wr.heap.size, 0, none⟩) 1 1, .bool true, .bool false] 78)
              simpa using this
            have HNW := hid hnew
            clear hnew
            refine wp_region_held_drew (S := fun w' => w'.cell? ⟨C + 4, 1, none⟩ = some (.slice none 0 0) ∧ w'.cell? ⟨C + 4, 2, none⟩ = some (.bool true) ∧ w'.cell? ⟨C + 4, 3, none⟩ = some (.bool false)) (by kernel_rfl) (by go_keep) (fun hHeld => ?_)
            refine wpAnyH_take (i := 0) (v := ?_) rfl (by kernel_rfl) (by kernel_rfl) (by kernel_rfl) (fun _ _ _ h => h) (Or.inl ⟨by rfl, ?_⟩) (by assumption) ?_
            rotate_left
            · (intro wx hSw; (try dsimp only at hSw); go_simp; try (with_reducible rfl))
            try simp only [Act.put, List.setIfInBounds_toArray, List.set_cons_zero, List.set_cons_succ]
            refine wpAnyH_take (i := 1) (v := ?_) rfl (by kernel_rfl) (by kernel_rfl) (by kernel_rfl) (fun _ _ _ h => h) (Or.inl ⟨by rfl, ?_⟩) (by assumption) ?_
            rotate_left
            · (intro wx hSw; (try dsimp only at hSw); go_simp; try (with_reducible rfl))
            try simp only [Act.put, List.setIfInBounds_toArray, List.set_cons_zero, List.set_cons_succ]
            refine wpAnyH_take (i := 2) (v := ?_) rfl (by kernel_rfl) (by kernel_rfl) (by kernel_rfl) (fun _ _ _ h => h) (Or.inl ⟨by rfl, ?_⟩) (by assumption) ?_
            rotate_left
            · (intro wx hSw; (try dsimp only at hSw); go_simp; try (with_reducible rfl))
            try simp only [Act.put, List.setIfInBounds_toArray, List.set_cons_zero, List.set_cons_succ]
            refine wpAnyH_take (i := 3) (v := ?_) rfl (by kernel_rfl) (by kernel_rfl) (by kernel_rfl) (fun _ _ _ h => h) (Or.inl ⟨by rfl, ?_⟩) (by assumption) ?_
            rotate_left
            · (intro wx hSw; (try dsimp only at hSw); go_simp; try (with_reducible rfl))
            try simp only [Act.put, List.setIfInBounds_toArray, List.set_cons_zero, List.set_cons_succ]
            refine wpAnyH_take (i := 4) (v := ?_) rfl (by kernel_rfl) (by kernel_rfl) (by kernel_rfl) (fun _ _ _ h => h) (Or.inl ⟨by rfl, ?_⟩) (by assumption) ?_
            rotate_left
            · (intro wx hSw; (try dsimp only at hSw); go_simp; try (with_reducible rfl))
            try simp only [Act.put, List.setIfInBounds_toArray, List.set_cons_zero, List.set_cons_succ]
            refine wpAnyH_take (i := 6) (v := ?_) rfl (by kernel_rfl) (by kernel_rfl) (by kernel_rfl) (fun _ _ _ h => h) (Or.inl ⟨by rfl, ?_⟩) (by assumption) ?_
            rotate_left
            · (intro wx hSw; (try dsimp only at hSw); go_simp; try (with_reducible rfl))
            try simp only [Act.put, List.setIfInBounds_toArray, List.set_cons_zero, List.set_cons_succ]
            refine wpAnyH_take (i := 7) (v := ?_) rfl (by kernel_rfl) (by kernel_rfl) (by kernel_rfl) (fun _ _ _ h => h) (Or.inl ⟨by rfl, ?_⟩) (by assumption) ?_
            rotate_left
            · (intro wx hSw; (try dsimp only at hSw); go_simp; try (with_reducible rfl))
            try simp only [Act.put, List.setIfInBounds_toArray, List.set_cons_zero, List.set_cons_succ]
            refine wpAnyH_take (i := 11) (v := ?_) rfl (by kernel_rfl) (by kernel_rfl) (by kernel_rfl) (fun _ _ _ h => h) (Or.inl ⟨by rfl, ?_⟩) (by assumption) ?_
            rotate_left
            · (intro wx hSw; (try dsimp only at hSw); go_simp; try (with_reducible rfl))
            try simp only [Act.put, List.setIfInBounds_toArray, List.set_cons_zero, List.set_cons_succ]
            refine wpAnyH_take (i := 12) (v := ?_) rfl (by kernel_rfl) (by kernel_rfl) (by kernel_rfl) (fun _ _ _ h => h) (Or.inl ⟨by rfl, ?_⟩) (by assumption) ?_
            rotate_left
            · (intro wx hSw; (try dsimp only at hSw); go_simp; try (with_reducible rfl))
            try simp only [Act.put, List.setIfInBounds_toArray, List.set_cons_zero, List.set_cons_succ]
            refine wpAnyH_ready (rs := [5]) (by kernel_rfl) (by simp) (AllReadyH.cons rfl (fun K hK => ?_) AllReadyH.nil)
            go_simp
            refine (appendIndex_nil k _).mono ?_
            rintro e w' ⟨rfl, rfl⟩
            refine hK.out _ _ (by go_keep) (fun hHeld2 => ?_)
            clear hK K hHeld
            try simp only [Act.put, List.setIfInBounds_toArray, List.set_cons_zero, List.set_cons_succ]
            refine wpAnyH_take (i := 8) (v := ?_) rfl (by kernel_rfl) (by kernel_rfl) (by kernel_rfl) (fun _ _ _ h => h) (Or.inl ⟨by rfl, ?_⟩) (by assumption) ?_
            rotate_left
            · (intro wx hSw; (try dsimp only at hSw); go_simp; try (with_reducible rfl))
            try simp only [Act.put, List.setIfInBounds_toArray, List.set_cons_zero, List.set_cons_succ]
            refine wpAnyH_take (i := 9) (v := undef) rfl (by kernel_rfl) (by kernel_rfl) (by kernel_rfl) (fun _ _ _ h => h) (Or.inr ⟨by rfl, rfl⟩) (by assumption) ?_
            try simp only [Act.put, List.setIfInBounds_toArray, List.set_cons_zero, List.set_cons_succ]
            refine wpAnyH_take (i := 10) (v := ?_) rfl (by kernel_rfl) (by kernel_rfl) (by kernel_rfl) (fun _ _ _ h => h) (Or.inl ⟨by rfl, ?_⟩) (by assumption) ?_
            rotate_left
            · (intro wx hSw; (try dsimp only at hSw); go_simp; try (with_reducible rfl))
            try simp only [Act.put, List.setIfInBounds_toArray, List.set_cons_zero, List.set_cons_succ]
            refine wpAnyH_take (i := 13) (v := ?_) rfl (by kernel_rfl) (by kernel_rfl) (by kernel_rfl) (fun _ _ _ h => h) (Or.inl ⟨by rfl, ?_⟩) (by assumption) ?_
            rotate_left
            · (intro wx hSw; (try dsimp only at hSw); go_simp; try (with_reducible rfl))
            try simp only [Act.put, List.setIfInBounds_toArray, List.set_cons_zero, List.set_cons_succ]
            refine wpAnyH_ready (rs := [14]) (by kernel_rfl) (by simp) (AllReadyH.cons rfl (fun K hK => ?_) AllReadyH.nil)
            go_simp
            refine hK.out _ _ (by go_keep) (fun hHeld3 => ?_)
            clear hK K hHeld2
            try simp only [Act.put, List.setIfInBounds_toArray, List.set_cons_zero, List.set_cons_succ]
            refine wpAnyH_ready (rs := [15]) (by kernel_rfl) (by simp) (AllReadyH.cons rfl (fun K hK => ?_) AllReadyH.nil)
            refine step_append_lies _ (by rfl) _ _ _ (by rfl) (C + 5) 78 i0 _ 4 48 Yba.underlying79 hi hz0 hz1 hz2 rfl (by omega) (.slice ao m c) m _ (by rfl) (((HO.out.alloc _).alloc _).drew) ⟨wr.heap.size + 1, 0, none⟩ 1 1 [.iface 30 (.pointer (some ⟨N (tg k), 0, none⟩)), .slice (some ⟨wr.heap.size, 0, none⟩) 1 1, .bool true, .bool false] (by rfl) (by rfl) (World.news_of_block (cs := #[.iface 30 (.pointer (some ⟨N (tg k), 0, none⟩)), .slice (some ⟨wr.heap.size, 0, none⟩) 1 1, .bool true, .bool false]) (t := 78) (fr := (0, 0)) HNW.out) (by simp [Value.oneCell']) (by omega) (by unfold maxLen; omega) (by omega) (by simp; omega) (wr.heap.size + 1 + 1) (by simp) ?_
            intro g' cap' W5 hown5 hgrow hat5 hlt5
            refine hK.out _ _ (by go_split_ands; refine ⟨?_, ?_, ?_⟩ <;> (rw [hgrow.cell_far _ (by simp; omega) (fun e => by have := HO.out.lt (C + 4) e.symm; omega)]; assumption)) (fun hHeld4 => ?_)
            clear hK K hHeld3
            try simp only [Act.put, List.setIfInBounds_toArray, List.set_cons_zero, List.set_cons_succ]
            refine wpAnyH_take (i := 16) (v := ?_) rfl (by kernel_rfl) (by kernel_rfl) (by kernel_rfl) (fun _ _ _ h => h) (Or.inl ⟨by rfl, ?_⟩) (by assumption) ?_
            rotate_left
            · (intro wx hSw; (try dsimp only at hSw); go_simp; try (with_reducible rfl))
            try simp only [Act.put, List.setIfInBounds_toArray, List.set_cons_zero, List.set_cons_succ]
            refine wpAnyH_done (by kernel_rfl) ?_ _
            clear hHeld4
            obtain rfl := HM.out
            have hR5 := HR.out.emb HS0.out (by rw [HK.out]; decide) rfl HW2.out rfl HO.out HG.out (by simpa [HK.out] using hown5) hgrow
            have ee : (embI sm kd (k + 1)).length = (embI sm kd k).length + 1 := by simp [embI, HS0.out, HK.out]
            have HR5 := hid hR5
            have HEE := hid ee
            clear hR5 hown5 hgrow hat5 HR ee HO HG HNW e1 e2 e3 fc fe ft
            go_wp2
            go_roundw
            case rel => exact ⟨k + 1, some ⟨g', 0, none⟩, cap', by omega, by go_num, by rw [HEE.out], by rw [HEE.out]; exact HR5⟩
            case measure => simp [intOf]; omega
    · have e : k = n := by omega
      subst e
      obtain ⟨obj, ix, ind', hA, hpos⟩ := HR.out.acc
      have q0 := cell_of_one hA.h0
      have q1 := cell_of_one hA.h1
      have q2 := cell_of_one hA.h2
      have q3 := cell_of_one hA.h3
      have HBW := hid hbw
      have HP := hid hpos
      clear hA hpos hbw
      rcases (show 1 < cntF sm k ∨ cntF sm k = 1 ∨ cntF sm k = 0 from by omega) with h1 | h1 | h1
      · obtain ⟨rfl, rfl, g, rfl, hg⟩ := HP.out (by omega)
        have HG := hid hg
        clear hg
        go_wp2
        rw [rounds_succ]
        go_wp2
        go_quiet (fail)
        go_wp2
        go_ret3
        exact OutS.many h1 (cell_of_one HG.out) (below_drewN (HH.out ▸ HBW.out) _)
      · obtain ⟨rfl, rfl, g, rfl, hg⟩ := HP.out (by omega)
        have HG := hid hg
        have H1 := hid h1
        rw [h1] at q0
        clear hg h1
        go_wp2
        rw [rounds_succ]
        go_wp2
        go_quiet (fail)
        go_wp2
        go_ret3
        exact OutS.one H1.out (cell_of_one HG.out) (below_drewN (HH.out ▸ HBW.out) _)
      · have H1 := hid h1
        rw [h1] at q0
        clear h1 HP
        obtain ⟨G, ho, hnil, hG⟩ := HR.out.nxt
        by_cases hem : embI sm kd k = []
        · have hv := hnil hem
          simp only [Value.slice.injEq] at hv
          obtain ⟨rfl, hl0, rfl⟩ := hv
          rw [hl0]
          have HEM := hid hem
          clear ho hnil hG hem
          go_wp2
          rw [rounds_succ]
          go_wp2_with (go_at_call 13; refine (merge_nil _).mono ?_; rintro e W5 ⟨rfl, hb5⟩)
          rw [rounds_succ]
          go_wp2
          go_ret3
          have hb := (HH.out ▸ HBW.out : Below w.heap.size w wr)
          exact OutS.zero H1.out (by rw [HEM.out]; rfl) (hb.trans (hb5.mono hb.size))
        · have hlen : (embL N tg kd G ind (embI sm kd k)).length = (embI sm kd k).length := by simp [embL]
          have hlp : 0 < (embI sm kd k).length := List.length_pos_iff.2 hem
          have hml := embI_length sm kd k
          obtain ⟨g13, c13, hv, hgb, hg13⟩ := ho.form hlp
          simp only [Value.slice.injEq] at hv
          obtain ⟨rfl, -, rfl⟩ := hv
          have hcs : ∀ (j : Nat) (e : Emb), (embL N tg kd G ind (embI sm kd k))[j]? = some e → wr.cell? ⟨g13, j * 4, none⟩ = some (.iface 30 (ptr e.nb)) ∧ wr.cell? ⟨g13, j * 4 + 1, none⟩ = some (.slice (some ⟨e.g, 0, none⟩) 1 1) ∧ wr.cell? ⟨g13, j * 4 + 2, none⟩ = some (.bool e.ind) ∧ wr.cell? ⟨g13, j * 4 + 3, none⟩ = some (.bool e.mult) := by
            intro j e hj
            have hjl : j < (embI sm kd k).length := by rw [← hlen]; exact (List.getElem?_eq_some_iff.1 hj).1
            obtain ⟨h1, h2, h3, h4⟩ := embCells_get _ j e hj
            exact ⟨(ho.cellAt _ (by omega)).trans h1, (ho.cellAt _ (by omega)).trans h2, (ho.cellAt _ (by omega)).trans h3, (ho.cellAt _ (by omega)).trans h4⟩
          have hbwr : Below w.heap.size w wr := HH.out ▸ HBW.out
          have hNb : ∀ e ∈ embL N tg kd G ind (embI sm kd k), Blk wr e.nb := by
            intro e he
            obtain ⟨j, _, rfl⟩ := List.mem_map.1 he
            have := (HNM.out (tg j) (HTG.out j)).below hbwr
            exact ⟨_, _, this.blk⟩
          have hMG := merge_any g13 c (embL N tg kd G ind (embI sm kd k)) wr (by rw [hlen]; omega) hcs hNb hg13
          have hinjt : ∀ i j, N (tg i) = N (tg j) → tg i = tg j := fun i j h => HINJ.out _ _ (HTG.out i) (HTG.out j) h
          rw [hlen, mergeE_map N tg kd G ind hinjt, List.length_map] at hMG
          have hmsp := mergeM_pos tg (embI sm kd k) hem
          have hmsl := mergeM_length tg (embI sm kd k)
          have hnd := mergeM_nodup tg (embI sm kd k)
          have hmem := mergeM_mem tg (embI sm kd k)
          have HMG := hid hMG
          have HG := hid hG
          have HWR := hid (⟨HR.out.fr.size, (HR.out.fr.block (H + 1) (by have := HW2.out; omega) (by omega)).trans HMAP2.out⟩ : W2.heap.size ≤ wr.heap.size ∧ wr.heap[H + 1]? = some (.map #[] 0))
          obtain ⟨ms, hms⟩ : ∃ ms, ms = mergeM tg (embI sm kd k) := ⟨_, rfl⟩
          rw [← hms] at HMG hmsp hmsl hnd hmem ⊢
          have HND := hid hnd
          have HMSE := hid hms
          have HMEM := hid hmem
          clear hcs hNb hMG ho hG hnil hem hms hnd hmem hinjt hbwr hlen
          go_wp2
          rw [rounds_succ]
          go_wp2_with fail
          refine HMG.out.mono ?_
          rintro e W6 ⟨v6, rfl, ho6, hb6⟩
          obtain ⟨g6, c6, rfl, hg6b, hg6⟩ := ho6.form hmsp
          have hs6 := hb6.size
          have HO6 := hid ho6
          have HBW6 := hid (HBW.out.trans (hb6.mono (by have := HBW.out.size; rw [HH.out]; exact this)))
          have HMAP6 := hid ((hb6.block (H + 1) (lt_of_block HWR.out.2)).trans HWR.out.2)
          have HG6 : Hid (∀ j ∈ embI sm kd k, W6.heap[G j]? = some (.cells #[.int .i64 j] 3 (0, 0))) := fun j hj => (hb6.block _ (lt_of_block (HG.out j hj).1)).trans (HG.out j hj).1
          have hHw : H + 1 < wr.heap.size := lt_of_block HWR.out.2
          have HCW := hid (show C + 5 ≤ wr.heap.size from by have := HWR.out.1; rw [HW2.out] at this; exact this)
          clear HMG HG HWR ho6 hb6 q0 q1 q2 q3
          go_wp2_with fail
          rw [rounds_succ]
          go_wp2_with fail
          obtain ⟨hA7, hB7, ho7⟩ := acc_start W6
          have hs7 : ((((W6.alloc (.cells #[.nilIface] 61)).alloc (.cells #[.slice none 0 0] 62)).alloc (.cells #[.bool false] 4)).alloc (.cells #[.int .i64 0] 3)).heap.size = W6.heap.size + 1 + 1 + 1 + 1 := by simp
          generalize (((W6.alloc (.cells #[.nilIface] 61)).alloc (.cells #[.slice none 0 0] 62)).alloc (.cells #[.bool false] 4)).alloc (.cells #[.int .i64 0] 3) = W7 at *
          have hrow7 : ∀ j, j < ms.length * 4 → W7.cell? ⟨g6, j, none⟩ = (embCells (ms.map (toE N tg kd G ind)))[j]? := fun j hj => (ho7 g6 j hg6).trans (HO6.out.cellAt j hj)
          have hG7 : ∀ j ∈ embI sm kd k, W7.heap[G j]? = some (.cells #[.int .i64 j] 3 (0, 0)) := fun j hj => (hB7.block _ (lt_of_block (HG6.out j hj))).trans (HG6.out j hj)
          have hGl : ∀ j ∈ embI sm kd k, G j < W6.heap.size := fun j hj => lt_of_block (HG6.out j hj)
          have hM7 := (hB7.block (H + 1) (lt_of_block HMAP6.out)).trans HMAP6.out
          have hbw7 : Below H w W7 := HBW6.out.trans (hB7.mono (by omega))
          obtain ⟨C6, hC6⟩ : ∃ C6, C6 = W6.heap.size := ⟨_, rfl⟩
          rw [← hC6] at hA7 hs7 hg6 hs6 hGl ⊢
          have HST7 : Hid (R2 W7 W7 C6 (H + 1) 0 ind mi N tg kd MB ms) := ⟨Fr.refl _ _, ⟨_, _, _, by simpa [foldM] using hA7, fun h => absurd h (by simp [foldM])⟩, #[], 0, hM7, by simp⟩
          have HROW7 := hid hrow7
          have HG7 := hid hG7
          have HGL := hid hGl
          have HBW7 := hid hbw7
          have HS7 := hid hs7
          clear hA7 hB7 ho7 hs7 hrow7 hG7 hM7 hbw7 hC6 HO6 HG6 HMAP6 HBW6 hGl
          go_loopw [13, 46] (fun v i wr2 => ∃ p : Nat, p ≤ ms.length ∧ i = .int .i64 p ∧ v = .slice none 0 0 ∧ Hid (R2 W7 wr2 C6 (H + 1) p ind mi N tg kd MB ms)) (fun _ i _ => ms.length - (intOf i).toNat)
          case atStart => exact ⟨0, Nat.zero_le _, rfl, rfl, HST7⟩
          case round =>
            obtain ⟨p, hp, rfl, rfl, HR2⟩ := hrel
            have hbw2 : Below H w wr := HBW7.out.trans (HR2.out.fr.to_below (by have := HS7.out; omega) (fun j hj => by omega))
            have hbwh : Below w.heap.size w wr := HH.out ▸ hbw2
            have HBWR := hid hbwh
            by_cases hlt : p < ms.length
            · obtain ⟨x, hx⟩ : ∃ x, ms[p]? = some x := ⟨ms[p], List.getElem?_eq_getElem hlt⟩
              have hrow : ∀ j, j < ms.length * 4 → wr.cell? ⟨g6, j, none⟩ = (embCells (ms.map (toE N tg kd G ind)))[j]? := fun j hj => (HR2.out.fr.cell (p := ⟨g6, j, none⟩) (by have := HS7.out; show g6 < _; omega) (by show ¬ ((C6 ≤ g6 ∧ g6 ≤ C6 + 3) ∨ g6 = H + 1); omega)).trans (HROW7.out j hj)
              obtain ⟨h0, h1, h2, h3⟩ := embCells_get (ms.map (toE N tg kd G ind)) p (toE N tg kd G ind x) (by rw [List.getElem?_map, hx]; rfl)
              have r0 := (hrow (p * 4) (by omega)).trans h0
              have r1 := (hrow (p * 4 + 1) (by omega)).trans h1
              have r2 := (hrow (p * 4 + 2) (by omega)).trans h2
              have r3 := (hrow (p * 4 + 3) (by omega)).trans h3
              simp only [toE] at r0 r1 r2 r3
              have hxm : x ∈ ms := List.mem_of_getElem? hx
              have hxe := HMEM.out x hxm
              have hgl := HGL.out x.1 hxe
              have hgc : wr.heap[G x.1]? = some (.cells #[.int .i64 x.1] 3 (0, 0)) := (HR2.out.fr.block (G x.1) (by have := HS7.out; omega) (by
                rintro (h | h)
                · omega
                · obtain ⟨_, _, hm, _⟩ := HST7.out.map
                  have := HG7.out x.1 hxe
                  rw [h, hm] at this
                  cases this)).trans (HG7.out x.1 hxe)
              obtain ⟨kk, hkk⟩ : ∃ kk, kk = tg x.1 := ⟨_, rfl⟩
              have hk3 : kk < 3 := by rw [hkk]; exact HTG.out _
              have hNA := (HNM.out kk hk3).below hbwh
              have hHit := HMI.out kk hk3
              have HX := hid hx
              have HKK := hid hkk
              rw [← hkk] at r0
              obtain ⟨bi, hbi⟩ : ∃ bi, bi = (ind || decide (kd x.1 = 2)) := ⟨_, rfl⟩
              rw [← hbi] at r2
              obtain ⟨mu, hmu⟩ : ∃ mu, mu = x.2 := ⟨_, rfl⟩
              rw [← hmu] at r3
              obtain ⟨gi, hgi⟩ : ∃ gi, gi = G x.1 := ⟨_, rfl⟩
              rw [← hgi] at r1 hgc hgl
              obtain ⟨nb, hnb⟩ : ∃ nb, nb = N kk := ⟨_, rfl⟩
              rw [← hnb] at r0 hNA
              have HBI := hid hbi
              have HMU := hid hmu
              have HGI := hid hgi
              have HNB := hid hnb
              have HNA := hid hNA
              have HGC := hid hgc
              have HHIT := hid hHit
              clear hrow h0 h1 h2 h3 hxm hxe hgc hx hkk hbi hmu hgi hnb hNA hHit hbw2 hbwh
              have hi0' : (0 : Int) ≤ (p : Int) := Int.natCast_nonneg _
              have hi1 : (p : Int) < (ms.length : Int) := by omega
              have t1 := ta_30_30
              have t2 := ta_32_32
              have t3 := ta_32_30
              go_wp2_with fail
              have hE := heap_alloc_new wr (.cells #[.iface 30 (ptr nb), .slice (some ⟨gi, 0, none⟩) 1 1, .bool bi, .bool mu] 78)
              have hb8 : Below wr.heap.size wr (wr.alloc (.cells #[.iface 30 (ptr nb), .slice (some ⟨gi, 0, none⟩) 1 1, .bool bi, .bool mu] 78)) := (Below.refl _ _).alloc (Nat.le_refl _) _
              have hz8 : (wr.alloc (.cells #[.iface 30 (ptr nb), .slice (some ⟨gi, 0, none⟩) 1 1, .bool bi, .bool mu] 78)).heap.size = wr.heap.size + 1 := by simp
              generalize wr.alloc (.cells #[.iface 30 (ptr nb), .slice (some ⟨gi, 0, none⟩) 1 1, .bool bi, .bool mu] 78) = W8 at *
              obtain ⟨ents, clk, hmp, hks⟩ := HR2.out.map
              have hmw : H + 1 < wr.heap.size := lt_of_block hmp
              have hmp8 := (hb8.block _ hmw).trans hmp
              have hblk8 : ∀ j, j < 3 → Blk W8 (N j) := fun j hj => ⟨_, _, (((HNM.out j hj).below HBWR.out).below hb8).blk⟩
              have hKb : ∀ a ∈ (ms.take p).map (fun x => N (tg x.1)), Blk W8 a := by
                intro a ha
                obtain ⟨y, _, rfl⟩ := List.mem_map.1 ha
                exact hblk8 _ (HTG.out _)
              have hnbk : Blk W8 nb := by rw [HNB.out]; exact hblk8 _ hk3
              have hnin : nb ∉ (ms.take p).map (fun x => N (tg x.1)) := by
                intro hin
                obtain ⟨y, hy, e⟩ := List.mem_map.1 hin
                have h1 : tg x.1 ∉ (ms.map (fun x => tg x.1)).take p := nodup_take HND.out p _ (by rw [List.getElem?_map, HX.out]; rfl)
                apply h1
                rw [← List.map_take]
                refine List.mem_map.2 ⟨y, hy, ?_⟩
                rw [← HKK.out]
                exact HINJ.out _ _ (HTG.out _) hk3 (by rw [e, HNB.out])
              have hl := look80_none W8 (H + 1) nb clk ents _ hmp8 hks hKb hnbk hnin
              have hsn := store_new 80 4 Yba.underlying80 W8 (H + 1) nb clk (.bool true) ents _ hmp8 hks hKb hnbk hnin
              have hs9 : (ChangeMaps.setBlock W8 (H + 1) (.map (ents.push { key := ptr nb, val := .bool true, born := clk }) (clk + 1))).heap.size = W8.heap.size := by simp [ChangeMaps.setBlock]
              have hm9 : (ChangeMaps.setBlock W8 (H + 1) (.map (ents.push { key := ptr nb, val := .bool true, born := clk }) (clk + 1))).heap[H + 1]? = some (.map (ents.push { key := ptr nb, val := .bool true, born := clk }) (clk + 1)) := by
                simp [ChangeMaps.setBlock, lt_of_block hmp8]
              have hf9 : Fr (fun k => k = H + 1) W8 (ChangeMaps.setBlock W8 (H + 1) (.map (ents.push { key := ptr nb, val := .bool true, born := clk }) (clk + 1))) :=
                ⟨rfl, rfl, rfl, by rw [hs9]; exact Nat.le_refl _, fun k _ hk => Array.getElem?_setIfInBounds_ne (fun h => hk h.symm)⟩
              generalize ChangeMaps.setBlock W8 (H + 1) (.map (ents.push { key := ptr nb, val := .bool true, born := clk }) (clk + 1)) = W9 at *
              have hfr9 : Fr (fun k => k = H + 1) wr W9 := ((Fr.refl _ _).below hb8).trans hf9
              have hkey9 : (ents.push { key := ptr nb, val := .bool true, born := clk }).toList.map (·.key) = ((ms.take (p + 1)).map (fun x => N (tg x.1))).map ptr := by
                rw [List.take_add_one, HX.out]
                simp only [Array.toList_push, List.map_append, hks, List.map_cons, List.map_nil, Option.toList_some]
                rw [HNB.out, HKK.out]
              obtain ⟨E, hEq⟩ : ∃ E, E = wr.heap.size := ⟨_, rfl⟩
              rw [← hEq] at hE hz8 hmw ⊢
              have hEl : E < W8.heap.size := by omega
              have e9 : W9.heap[E]? = _ := (hf9.block E hEl (by omega)).trans hE
              have c0 : W9.cell? ⟨E, 0, none⟩ = some (.iface 30 (.pointer (some ⟨nb, 0, none⟩))) := by simp [World.cell?, e9]
              have c1 : W9.cell? ⟨E, 1, none⟩ = some (.slice (some ⟨gi, 0, none⟩) 1 1) := by simp [World.cell?, e9]
              have c2 : W9.cell? ⟨E, 2, none⟩ = some (.bool bi) := by simp [World.cell?, e9]
              have c3 : W9.cell? ⟨E, 3, none⟩ = some (.bool mu) := by simp [World.cell?, e9]
              have hbW9 : Below H w W9 := (HH.out ▸ HBWR.out : Below H w wr).trans (hfr9.to_below (by have := (HH.out ▸ HBWR.out : Below H w wr).size; omega) (fun j hj => by omega))
              have hNA9 := (HNM.out kk hk3).below (HH.out ▸ hbW9 : Below w.heap.size w W9)
              have n1 : W9.cell? ⟨nb, 1, none⟩ = some (.iface 32 (.pointer (some ⟨S kk, 0, none⟩))) := by rw [HNB.out]; simp [World.cell?, hNA9.blk]
              have n2 : W9.cell? ⟨nb, 2, none⟩ = some (.slice (aom kk) (cn kk) (cp kk)) := by rw [HNB.out]; simp [World.cell?, hNA9.blk]
              have n3 := hNA9.str
              have hMI := methodIndex_any (aom kk) (cn kk) (cp kk) P s use (MB kk) (MI kk) W9 (by have := hNA9.le; omega) hs hNA9.fns
              rw [← HPK.out] at hMI
              have HMIX := hid (hMI.mono (fun e w' h => (⟨h.1, h.2.symm⟩ : (∃ r, e = .returned (.int .i64 r) ∧ Hit (MI kk) s use (cn kk) r) ∧ W9 = w')))
              have HNA9 := hid hNA9
              have HFR9 := hid hfr9
              have HM9 := hid hm9
              have HK9 := hid hkey9
              have HE9 := hid hEq
              rw [hl]
              clear hl hmp8 hks hKb hnbk hnin hblk8 hmp hb8 hE hf9 hm9 hfr9 hkey9 e9 hNA9 hMI hs9 hz8 hEl hEq hbW9
              go_wp2_with fail
              refine HMIX.out.mono ?_
              rintro e W10 ⟨⟨r, rfl, hr⟩, rfl⟩
              have hru := hr.unique HHIT.out
              clear hr HMIX
              cases hmk : mi kk with
              | none =>
                rw [hmk] at hru
                subst hru
                have hR := HR2.out.mark HX.out (by rw [← HKK.out]; exact hmk) HFR9.out HM9.out HK9.out
                have HR' := hid hR
                clear hR hmk c0 c1 c2 c3 n2
                go_wp2_with fail
                refine wp_loop_rounds 1 ?_
                rw [rounds_succ]
                go_wp2
                go_roundw
                case rel => exact ⟨p + 1, by omega, by go_num, rfl, HR'⟩
                case measure => simp [intOf]; omega
              | some t =>
                rw [hmk] at hru
                simp only at hru
                subst hru
                have htc : t < cn kk := by
                  rcases HHIT.out with ⟨k', hk', e, _⟩ | ⟨e, _⟩
                  · rw [hmk] at e; simp only at e; omega
                  · rw [hmk] at e; simp only at e; omega
                obtain ⟨gm, hgm, hfs⟩ := HNA9.out.fns (by omega)
                rw [hgm] at n2 ⊢
                have gt := (hfs t htc).1
                have hcn4 := HNA9.out.le
                obtain ⟨obj, ix, ind2, hA, _⟩ := HR2.out.acc
                have hA9 := hA.kept HFR9.out (by omega) (by omega) (by omega) (by omega)
                have hgi9 : W9.cell? ⟨gi, 0, none⟩ = some (.int .i64 x.1) := by
                  have hne : gi ≠ H + 1 := by
                    intro h
                    obtain ⟨_, _, hm, _⟩ := HR2.out.map
                    have := HGC.out
                    rw [h, hm] at this
                    cases this
                  exact cell_of_one ((HFR9.out.block gi (lt_of_block HGC.out) hne).trans HGC.out)
                have hfl := foldM_le mi tg (ms.take p) (0, 0)
                have hfl2 : (foldM mi tg (ms.take p)).1 ≤ 2048 := by
                  have e : foldM mi tg (ms.take p) = (ms.take p).foldl (stepM mi tg) (0, 0) := rfl
                  have hl : (ms.take p).length ≤ ms.length := by simp; omega
                  rw [e]
                  simp only at hfl
                  omega
                have HA9 := hid hA9
                have HGI9 := hid hgi9
                have HMK := hid hmk
                have hEC : C6 + 3 < E := by
                  have h1 := HR2.out.fr.size
                  have h2 := HS7.out
                  have h3 := HE9.out
                  omega
                have hnbH : nb < H := by
                  rw [HNB.out, HH.out]
                  exact lt_of_block (HNM.out kk hk3).blk
                have hgmH : gm < H := by
                  obtain ⟨gm', hgm', hfs'⟩ := (HNM.out kk hk3).fns (by omega)
                  rw [hgm'] at hgm
                  simp at hgm
                  rw [HH.out, ← hgm]
                  exact World.block_lt_of_cell? w _ (hfs' t htc).1
                have hE9 : E < W9.heap.size := World.block_lt_of_cell? W9 _ c0
                have hH9 : H < W9.heap.size := by omega
                have hj0 : (0 : Int) ≤ (t : Int) := Int.natCast_nonneg _
                have hj1 : (t : Int) < (cn kk : Int) := by omega
                clear hA hA9 hgi9 hmk hfs hgm hfl n1 n3
                go_wp2_with fail
                go_region_held3 (fun w' => w'.cell? ⟨E, 0, none⟩ = some (.iface 30 (.pointer (some ⟨nb, 0, none⟩))) ∧ w'.cell? ⟨E, 1, none⟩ = some (.slice (some ⟨gi, 0, none⟩) 1 1) ∧ w'.cell? ⟨E, 2, none⟩ = some (.bool bi) ∧ w'.cell? ⟨E, 3, none⟩ = some (.bool mu) ∧
                    w'.cell? ⟨nb, 2, none⟩ = some (.slice (some ⟨gm, 0, none⟩) (cn kk) (cp kk)) ∧ w'.cell? ⟨gm, t, none⟩ = some (.pointer (some ⟨MB kk t, 0, none⟩)))
                  (first | go_keep | (go_split_ands; refine ⟨?_, ?_, ?_, ?_, ?_, ?_⟩ <;> (rw [hF11.cell (by simp; omega) (by simp; omega)]; assumption)))
                  (first | (go_at_call 8; refine (note_one _ 44 (MB kk t) gi bi mu ind2 x.1 t (foldM mi tg (ms.take p)).1 (C6 + 1 + 1 + 1) C6 (C6 + 1) (C6 + 1 + 1) obj ix _ (by exact ⟨HA9.out.h0, HA9.out.h1, HA9.out.h2, HA9.out.h3⟩) (by omega) (by omega) (by exact HGI9.out) (by omega) (by omega) (by omega) (by omega)).mono ?_; rintro e W11 ⟨rfl, hA11, hI11, hF11⟩))
                have hm11 := (hF11.block (H + 1) (by show H + 1 < W9.heap.size; omega) (by omega)).trans HM9.out
                have hfr11 : Fr (fun k => (C6 ≤ k ∧ k ≤ C6 + 3) ∨ k = H + 1) wr W11 := (HFR9.out.mono (fun k _ hk => .inr hk)).drew.trans (hF11.mono (fun k _ hk => .inl (by omega)))
                obtain rfl := HMU.out
                obtain rfl := HBI.out
                obtain rfl := HKK.out
                have hR := HR2.out.hit HX.out HMK.out hA11 hI11 hfr11 hm11 HK9.out
                have HR' := hid hR
                clear hR hA11 hI11 hF11 hm11 hfr11 c0 c1 c2 c3 n2 gt
                go_wp2
                go_roundw
                case rel => exact ⟨p + 1, by omega, by go_num, rfl, HR'⟩
                case measure => simp [intOf]; omega
            · have e : p = ms.length := by omega
              subst e
              obtain ⟨obj, ix, ind2, hA, hpos⟩ := HR2.out.acc
              rw [List.take_length] at hA hpos
              have q0 := cell_of_one hA.h0
              have q1 := cell_of_one hA.h1
              have q2 := cell_of_one hA.h2
              have q3 := cell_of_one hA.h3
              have HP := hid hpos
              clear hA hpos hbw2 hbwh
              generalize hst : foldM mi tg ms = st at *
              have EST := hid (show foldM mi tg (mergeM tg (embI sm kd k)) = st by rw [← HMSE.out]; exact hst)
              clear hst HST7 HROW7 HG7 HGL HBW7 HS7 HNM HMI HTG HINJ HPK HND HMEM HBW HF HQ HSC HE HW2 HMAP2 HST HCW HR HR2 HMSE hlt hp hmsp hmsl hml hlp hg13 hgb hg6 hg6b hs6 hHw
              rcases (show 1 < st.1 ∨ st.1 = 1 ∨ st.1 = 0 from by omega) with h1 | h1 | h1
              · obtain ⟨t, g, hm, rfl, rfl, rfl, hg⟩ := HP.out (by omega)
                have HG := hid hg
                have HM := hid hm
                clear hg hm
                go_wp2
                go_quiet (fail)
                go_wp2
                go_ret3
                rw [EST.out]
                exact OutS.many2 H1.out h1 HM.out (by simp [World.cell?_drewN, World.cell?, HG.out]) (by simp [World.cell?_drewN, World.cell?, HG.out]) (below_drewN HBWR.out _)
              · obtain ⟨t, g, hm, rfl, rfl, rfl, hg⟩ := HP.out (by omega)
                have HG := hid hg
                have HM := hid hm
                have H1' := hid h1
                rw [h1] at q0
                clear hg hm h1
                go_wp2
                go_quiet (fail)
                go_wp2
                go_ret3
                rw [EST.out]
                exact OutS.one2 H1.out H1'.out HM.out (by simp [World.cell?_drewN, World.cell?, HG.out]) (by simp [World.cell?_drewN, World.cell?, HG.out]) (below_drewN HBWR.out _)
              · have H1' := hid h1
                rw [h1] at q0
                clear h1 HP
                go_wp2_with (go_at_call 13; refine (merge_nil _).mono ?_; rintro e W5 ⟨rfl, hb5⟩)
                rw [rounds_succ]
                go_wp2
                go_ret3
                rw [EST.out]
                exact OutS.zero H1.out H1'.out (HBWR.out.trans (hb5.mono HBWR.out.size))
end Go.Proofs.Ybulkhuy
