/-
  Walk of lookupEmbedded (6) at an interface.
-/
import Derived.Test.YbulkhuyNote
import Derived.Test.YbulkhuyMeth
import Derived.Test.YbulkhuyTA
namespace Go.Proofs.Ybulkhuy
open Go.RowKit

theorem Funcs.below {w w' : World} {ao : Option Addr} {n P : Nat} {B I : Nat → Nat} (h : Funcs w ao n P B I) (hb : Below w.heap.size w w') : Funcs w' ao n P B I := by
  intro h0
  obtain ⟨g, rfl, hc⟩ := h h0
  refine ⟨g, rfl, fun k hk => ?_⟩
  obtain ⟨h1, ⟨h2, h3⟩, h4⟩ := hc k hk
  have l1 := World.block_lt_of_cell? w _ h1
  have l2 := World.block_lt_of_cell? w _ h2
  exact ⟨(hb.cell (p := ⟨g, k, none⟩) l1).trans h1, ⟨(hb.cell (p := ⟨B k, 0, none⟩) l2).trans h2, (hb.cell (p := ⟨B k, 5, none⟩) l2).trans h3⟩, h4⟩

set_option maxRecDepth 100000 in
set_option maxHeartbeats 1000000 in
theorem merge_nil (w : World) :
    Calls Yba.prog 13 #[.slice none 0 0] w fun e w' => e = .returned (.slice none 0 0) ∧ Below w.heap.size w w' := by
  have hmm := @run_makeMap Yba.prog
  go_enter Yba.func13, Yba.ntmps13
  go_wp2
  refine wp_loop_rounds 1 ?_
  rw [rounds_succ]
  go_wp2
  go_ret
  exact ⟨rfl, (Below.refl _ _).alloc (Nat.le_refl _) _⟩

/-- The four variables, laid. -/
theorem acc_start (W : World) :
    Acc ((((W.alloc (.cells #[.nilIface] 61)).alloc (.cells #[.slice none 0 0] 62)).alloc (.cells #[.bool false] 4)).alloc (.cells #[.int .i64 0] 3)) (W.heap.size + 1 + 1 + 1) W.heap.size (W.heap.size + 1) (W.heap.size + 1 + 1) 0 .nilIface (.slice none 0 0) false ∧
    Below W.heap.size W ((((W.alloc (.cells #[.nilIface] 61)).alloc (.cells #[.slice none 0 0] 62)).alloc (.cells #[.bool false] 4)).alloc (.cells #[.int .i64 0] 3)) ∧
    ∀ b o, b < W.heap.size → ((((W.alloc (.cells #[.nilIface] 61)).alloc (.cells #[.slice none 0 0] 62)).alloc (.cells #[.bool false] 4)).alloc (.cells #[.int .i64 0] 3)).cell? ⟨b, o, none⟩ = W.cell? ⟨b, o, none⟩ := by
  have hb : Below W.heap.size W ((((W.alloc (.cells #[.nilIface] 61)).alloc (.cells #[.slice none 0 0] 62)).alloc (.cells #[.bool false] 4)).alloc (.cells #[.int .i64 0] 3)) :=
    ((((Below.refl _ _).alloc (Nat.le_refl _) _).alloc (by simp) _).alloc (by simp; omega) _).alloc (by simp; omega) _
  have s1 : (W.alloc (.cells #[.nilIface] 61)).heap.size = W.heap.size + 1 := by simp
  have s2 : ((W.alloc (.cells #[.nilIface] 61)).alloc (.cells #[.slice none 0 0] 62)).heap.size = W.heap.size + 1 + 1 := by simp
  have s3 : (((W.alloc (.cells #[.nilIface] 61)).alloc (.cells #[.slice none 0 0] 62)).alloc (.cells #[.bool false] 4)).heap.size = W.heap.size + 1 + 1 + 1 := by simp
  refine ⟨⟨?_, ?_, ?_, ?_⟩, hb, fun b o h => hb.cell (p := ⟨b, o, none⟩) h⟩
  · have := heap_alloc_new (((W.alloc (.cells #[.nilIface] 61)).alloc (.cells #[.slice none 0 0] 62)).alloc (.cells #[.bool false] 4)) (.cells #[.int .i64 0] 3)
    rwa [s3] at this
  · rw [heap_alloc_old _ _ (by omega), heap_alloc_old _ _ (by omega), heap_alloc_old _ _ (by omega)]
    exact heap_alloc_new W _
  · rw [heap_alloc_old _ _ (by omega), heap_alloc_old _ _ (by omega)]
    have := heap_alloc_new (W.alloc (.cells #[.nilIface] 61)) (.cells #[.slice none 0 0] 62)
    rwa [s1] at this
  · rw [heap_alloc_old _ _ (by omega)]
    have := heap_alloc_new ((W.alloc (.cells #[.nilIface] 61)).alloc (.cells #[.slice none 0 0] 62)) (.cells #[.bool false] 4)
    rwa [s2] at this

set_option maxRecDepth 100000 in
set_option maxHeartbeats 1000000 in
theorem look_iface (q n cap P s : Nat) (ind use : Bool) (ao : Option Addr) (B I : Nat → Nat) (w : World) (hn : n ≤ 512) (hs : s < 4)
    (h3 : w.cell? ⟨q, 3, none⟩ = some (.bool true)) (h2 : w.cell? ⟨q, 2, none⟩ = some (.slice ao n cap)) (hF : Funcs w ao n P B I) :
    Calls Yba.prog 6 #[.iface 70 (.pointer (some ⟨q, 0, none⟩)), .bool ind, .pointer (if use then some ⟨P, 0, none⟩ else none), .string (nmB s)] w fun e w' =>
      ((∃ k g, k < n ∧ sameB (I k) s use = true ∧ (∀ j, j < k → sameB (I j) s use = false) ∧ e = .returned (.tuple #[.iface 44 (.pointer (some ⟨B k, 0, none⟩)), .slice (some ⟨g, 0, none⟩) 1 1, .bool ind]) ∧ w'.cell? ⟨g, 0, none⟩ = some (.int .i64 k)) ∨
        ((∀ j, j < n → sameB (I j) s use = false) ∧ e = .returned (.tuple #[.nilIface, .slice none 0 0, .bool false]))) ∧ Below w.heap.size w w' := by
  have hmm := @run_makeMap Yba.prog
  obtain ⟨pk, hpk⟩ : ∃ pk : Option Addr, pk = if use then some ⟨P, 0, none⟩ else none := ⟨_, rfl⟩
  rw [← hpk]
  have HPK := hid hpk
  clear hpk
  have HF := hid hF
  have H3 := hid h3
  have H2 := hid h2
  clear hF h3 h2
  go_enter Yba.func6, Yba.ntmps6
  go_wp2_with fail
  generalize hW : (w.alloc (.cells #[.iface 70 (.pointer (some ⟨q, 0, none⟩)), .slice none 0 0, .bool ind, .bool false] 78)).alloc (.map #[] 0) = W0
  obtain ⟨H, hH⟩ : ∃ H, H = w.heap.size := ⟨_, rfl⟩
  have cur0 : W0.cell? ⟨w.heap.size, 0, none⟩ = some (.iface 70 (.pointer (some ⟨q, 0, none⟩))) := by rw [← hW]; simp [World.cell?_alloc_past, World.cell?_alloc_at]
  have cur1 : W0.cell? ⟨w.heap.size, 1, none⟩ = some (.slice none 0 0) := by rw [← hW]; simp [World.cell?_alloc_past, World.cell?_alloc_at]
  have cur2 : W0.cell? ⟨w.heap.size, 2, none⟩ = some (.bool ind) := by rw [← hW]; simp [World.cell?_alloc_past, World.cell?_alloc_at]
  have cur3 : W0.cell? ⟨w.heap.size, 3, none⟩ = some (.bool false) := by rw [← hW]; simp [World.cell?_alloc_past, World.cell?_alloc_at]
  have HB0 : Hid (Below w.heap.size w W0) := by rw [Hid, ← hW]; exact ((Below.refl _ _).alloc (Nat.le_refl _) _).alloc (by simp) _
  have hz : w.heap.size + 1 < W0.heap.size := by rw [← hW]; simp
  clear hW
  have HH : Hid (H = w.heap.size) := hH
  rw [← hH] at cur0 cur1 cur2 cur3 HB0 hz ⊢
  clear hmm hH
  refine wp_loop_rounds 2 ?_
  rw [rounds_succ]
  go_wp2_with fail
  obtain ⟨hA, hB1, ho⟩ := acc_start W0
  generalize (((W0.alloc (.cells #[.nilIface] 61)).alloc (.cells #[.slice none 0 0] 62)).alloc (.cells #[.bool false] 4)).alloc (.cells #[.int .i64 0] 3) = W1 at *
  obtain ⟨C, hC⟩ : ∃ C, C = W0.heap.size := ⟨_, rfl⟩
  rw [← hC] at hA hB1 ho hz ⊢
  replace cur0 := (ho H 0 (by omega)).trans cur0
  replace cur1 := (ho H 1 (by omega)).trans cur1
  replace cur2 := (ho H 2 (by omega)).trans cur2
  replace cur3 := (ho H 3 (by omega)).trans cur3
  have HB1 : Hid (Below H w W1) := HB0.out.trans (hB1.mono (by omega))
  have HA := hid hA
  have zz := hA.lt
  clear hA hB1 ho HB0 hC
  have t1 := ta_70_30
  have t2 := ta_70_32
  have t3 := ta_70_70
  refine wp_loop_rounds 2 ?_
  rw [rounds_succ]
  go_wp2_with fail
  have hB2 : Below W1.heap.size W1 (W1.alloc (.cells #[.iface 70 (.pointer (some ⟨q, 0, none⟩)), .slice none 0 0, .bool ind, .bool false] 78)) := (Below.refl _ _).alloc (Nat.le_refl _) _
  have hE := heap_alloc_new W1 (.cells #[.iface 70 (.pointer (some ⟨q, 0, none⟩)), .slice none 0 0, .bool ind, .bool false] 78)
  have hz2 : W1.heap.size < (W1.alloc (.cells #[.iface 70 (.pointer (some ⟨q, 0, none⟩)), .slice none 0 0, .bool ind, .bool false] 78)).heap.size := by simp
  generalize W1.alloc (.cells #[.iface 70 (.pointer (some ⟨q, 0, none⟩)), .slice none 0 0, .bool ind, .bool false] 78) = W2 at *
  have hB1s := HB1.out.size
  rw [← HH.out] at hB1s
  have hA2 : Acc W2 (C + 1 + 1 + 1) C (C + 1) (C + 1 + 1) 0 .nilIface (.slice none 0 0) false := HA.out.kept (S := fun _ => False) ((Fr.refl _ _).below hB2) id id id id
  have hbw2 : Below H w W2 := HB1.out.trans (hB2.mono hB1s)
  obtain ⟨E, hE'⟩ : ∃ E, E = W1.heap.size := ⟨_, rfl⟩
  rw [← hE'] at hE hz2 ⊢
  have hEC : C + 1 + 1 + 1 < E := by rw [hE']; exact zz.1
  have hHC : H + 1 < C := hz
  clear hE' zz hz
  clear cur0 cur1 cur2 cur3 HA HB1 hB2
  have lq : q < H := HH.out ▸ World.block_lt_of_cell? w _ H3.out
  refine (methodSet_any q n cap ao W2 ((hbw2.cell (p := ⟨q, 3, none⟩) lq).trans H3.out) ((hbw2.cell (p := ⟨q, 2, none⟩) lq).trans H2.out)).mono ?_
  rintro e W3 ⟨rfl, hb3⟩
  have hz3 := hb3.size
  have hA3 : Acc W3 (C + 1 + 1 + 1) C (C + 1) (C + 1 + 1) 0 .nilIface (.slice none 0 0) false := hA2.kept (S := fun _ => False) ((Fr.refl _ _).below hb3) id id id id
  have hbw3 : Below H w W3 := hbw2.trans (hb3.mono (by have := hbw2.size; rw [HH.out]; exact this))
  have hE3 := (hb3.block E hz2).trans hE
  have hF3 := HF.out.below (HH.out ▸ hbw3)
  have HM := methodIndex_any ao n cap P s use B I W3 hn hs hF3
  rw [← HPK.out] at HM
  have HM := hid HM
  have HA3 := hid hA3
  have HB3 := hid hbw3
  have HF3 := hid hF3
  have HE3 := hid hE3
  clear hA2 hbw2 hE hb3 hA3 hbw3 hF3 hE3
  go_wp2_with fail
  refine HM.out.mono ?_
  rintro e W4 ⟨⟨r, rfl, hit⟩, rfl⟩
  clear HM
  rcases hit with ⟨k, hk, rfl, hsame, hno⟩ | ⟨rfl, hno⟩
  · obtain ⟨g, rfl, hcs⟩ := HF3.out (by omega)
    have gk := (hcs k hk).1
    obtain ⟨g', hg', hcs'⟩ := HF.out (by omega)
    have hgH : g < H := by
      simp at hg'
      have := World.block_lt_of_cell? w _ (hcs' k hk).1
      rw [HH.out, hg']; exact this
    clear hcs' hg'
    have hE4 : E < W4.heap.size := lt_of_block HE3.out
    have e0 : W4.cell? ⟨E, 0, none⟩ = some (.iface 70 (.pointer (some ⟨q, 0, none⟩))) := by simp [World.cell?, HE3.out]
    have e1 : W4.cell? ⟨E, 1, none⟩ = some (.slice none 0 0) := by simp [World.cell?, HE3.out]
    have e2 : W4.cell? ⟨E, 2, none⟩ = some (.bool ind) := by simp [World.cell?, HE3.out]
    have e3 : W4.cell? ⟨E, 3, none⟩ = some (.bool false) := by simp [World.cell?, HE3.out]
    have hi0' : (0 : Int) ≤ (k : Int) := Int.natCast_nonneg _
    have hi1 : (k : Int) < (n : Int) := by omega
    have HSA := hid hsame
    have HNO := hid hno
    clear hcs hno hsame
    go_wp2_with fail
    go_region_held3 (fun w' => w'.cell? ⟨E, 0, none⟩ = some (.iface 70 (.pointer (some ⟨q, 0, none⟩))) ∧ w'.cell? ⟨E, 1, none⟩ = some (.slice none 0 0) ∧ w'.cell? ⟨E, 2, none⟩ = some (.bool ind) ∧ w'.cell? ⟨E, 3, none⟩ = some (.bool false) ∧
        w'.cell? ⟨g, k, none⟩ = some (.pointer (some ⟨B k, 0, none⟩)))
      (first | go_keep | (go_split_ands; refine ⟨?_, ?_, ?_, ?_, ?_⟩ <;> (rw [hF5.cell (by simp; omega) (by simp; omega)]; assumption)))
      (first | (go_at_call 8; refine (note_nil _ 44 (B k) ind false k 0 (C + 1 + 1 + 1) C (C + 1) (C + 1 + 1) .nilIface (.slice none 0 0) _ (by exact ⟨HA3.out.h0, HA3.out.h1, HA3.out.h2, HA3.out.h3⟩) (by omega) (by omega)).mono ?_; rintro e W5 ⟨rfl, hA5, hI5, hF5⟩))
    have q0 := cell_of_one hA5.h0
    have q1 := cell_of_one hA5.h1
    have q2 := cell_of_one hA5.h2
    have q3 := cell_of_one hA5.h3
    have HB5 : Hid (Below H w W5) := HB3.out.drew.trans (hF5.to_below (B := H) (by have := HB3.out.size; rw [HH.out]; exact this) (fun j hj => by simp; omega))
    have HI5 := hid hI5
    have hHs : H ≤ W4.heap.size + 1 := by omega
    clear hA5 hI5 hF5 HE3 HA3 HF3 HB3 gk e0 e1 e2 e3
    go_wp2
    rw [rounds_succ]
    go_wp2
    go_quiet (fail)
    go_wp2
    go_ret3
    exact ⟨.inl ⟨k, _, hk, HSA.out, HNO.out, rfl, cell_of_one HI5.out⟩, below_drewN (HH.out ▸ HB5.out) _⟩
  · have HNO := hid hno
    have q0 := cell_of_one HA3.out.h0
    clear hno
    go_wp2_with fail
    rw [rounds_succ]
    go_wp2_with (go_at_call 13; refine (merge_nil _).mono ?_; rintro e W5 ⟨rfl, hb5⟩)
    rw [rounds_succ]
    go_wp2
    go_ret3
    exact ⟨.inr ⟨HNO.out, rfl⟩, (HH.out ▸ HB3.out : Below w.heap.size w W4).trans (hb5.mono (HH.out ▸ HB3.out : Below w.heap.size w W4).size)⟩
end Go.Proofs.Ybulkhuy
