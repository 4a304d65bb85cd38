/-
  Walks of AppendUint32 (15), controlMessage (12), the three messages (7, 8, 9) and LawS0428BRoundTrip (4).
-/
import Derived.Test.YbulkhvmFmtEx
import Derived.Deep.RegionHeld
namespace Go.Proofs.YbulkhvmFmt
open Go.RowKit Go.Extern.Stop Go.Stop Go.Extern

/-- Four bytes that spell v lie at block g. -/
def Spells (w : World) (g v : Nat) : Prop :=
  w.cell? ⟨g, 0, none⟩ = some (.int .u8 ((v / 16777216 : Nat) : Int)) ∧ w.cell? ⟨g, 0 + 1, none⟩ = some (.int .u8 ((v / 65536 % 256 : Nat) : Int)) ∧
  w.cell? ⟨g, 0 + 2, none⟩ = some (.int .u8 ((v / 256 % 256 : Nat) : Int)) ∧ w.cell? ⟨g, 0 + 3, none⟩ = some (.int .u8 ((v % 256 : Nat) : Int))

theorem Spells.kept {w w' : World} {g v : Nat} (h : Spells w g v) (hb : Below w.heap.size w w') : Spells w' g v := by
  have lg := World.block_lt_of_cell? w _ h.1
  exact ⟨(hb.cell (p := ⟨g, 0, none⟩) lg).trans h.1, (hb.cell (p := ⟨g, 0 + 1, none⟩) lg).trans h.2.1, (hb.cell (p := ⟨g, 0 + 2, none⟩) lg).trans h.2.2.1, (hb.cell (p := ⟨g, 0 + 3, none⟩) lg).trans h.2.2.2⟩

theorem be4_spells (v : Nat) : be4 (v / 16777216) (v / 65536 % 256) (v / 256 % 256) (v % 256) = v := by
  unfold be4
  omega

set_option maxHeartbeats 400000 in
theorem app_any (v : Nat) (w : World) (hv : v < 4294967296) :
    Calls Ybaf.prog 15 #[.agg #[], .slice none 0 0, .int .u32 v] w fun e w' => ∃ g c, e = .returned (.slice (some ⟨g, 0, none⟩) 4 c) ∧ Spells w' g v ∧ Below w.heap.size w w' := by
  go_enter Ybaf.func15, Ybaf.ntmps15
  go_wp2_with fail
  go_ret
  refine ⟨_, _, rfl, ⟨?_, ?_, ?_, ?_⟩, (((((Below.refl _ w).alloc (Nat.le_refl _) _).alloc (by simp) _).alloc (by simp; omega) _).drew)⟩
  · exact (World.cell?_alloc_at _ _ _ _ (by simp)).trans (by rw [Array.getElem?_append_left (by simp)]; simp)
  · exact (World.cell?_alloc_at _ _ _ _ (by simp)).trans (by rw [Array.getElem?_append_left (by simp)]; simp)
  · exact (World.cell?_alloc_at _ _ _ _ (by simp)).trans (by rw [Array.getElem?_append_left (by simp)]; simp)
  · exact (World.cell?_alloc_at _ _ _ _ (by simp)).trans (by rw [Array.getElem?_append_left (by simp)]; simp)

/-- A message laid whole into its variable. -/
theorem laid_msg {w1 : World} {b : Nat} {u0 u1 u2 u3 v0 v1 v2 v3 : Value} (h : w1.heap[b]? = some (.cells #[u0, u1, u2, u3] 25 (0, 0))) :
    ((((w1.setCell ⟨b, 0, none⟩ v0).setCell ⟨b, 1, none⟩ v1).setCell ⟨b, 2, none⟩ v2).setCell ⟨b, 3, none⟩ v3).heap[b]? = some (.cells #[v0, v1, v2, v3] 25 (0, 0)) := by
  rw [heap_setCell_same _ b 3 _ _ _ (heap_setCell_same _ b 2 _ _ _ (heap_setCell_same _ b 1 _ _ _ (heap_setCell_same _ b 0 _ _ _ h)))]; rfl

theorem Spells.set {w : World} {g v b : Nat} (h : Spells w g v) (hne : g ≠ b) (i : Nat) (u : Value) : Spells (w.setCell ⟨b, i, none⟩ u) g v :=
  ⟨(World.cell?_setCell_far _ _ _ _ (by exact hne.symm)).trans h.1, (World.cell?_setCell_far _ _ _ _ (by exact hne.symm)).trans h.2.1, (World.cell?_setCell_far _ _ _ _ (by exact hne.symm)).trans h.2.2.1, (World.cell?_setCell_far _ _ _ _ (by exact hne.symm)).trans h.2.2.2⟩

theorem Spells.apart {w : World} {g v b : Nat} {u1 u2 u3 : Value} {k : Int} (h : Spells w g v) (h1 : w.heap[b]? = some (.cells #[.int .u8 k, u1, u2, u3] 25 (0, 0))) (hu : ∀ n, u1 ≠ .int .u8 n) : g ≠ b := by
  rintro rfl
  have := cell_of_row w g 1 _ _ _ h1
  have h2 := h.2.1
  simp at this h2
  rw [this] at h2
  cases h2
  exact hu _ rfl

theorem Ybaf.size25 : (Ybaf.prog.info? 25).map (·.size) = some 4 := by kernel_rfl

set_option maxHeartbeats 400000 in
theorem msg_any (t v : Nat) (w : World) (hv : v < 4294967296) :
    Calls Ybaf.prog 12 #[.int .u8 t, .int .u32 v] w fun e w' => ∃ g c, e = .returned (.agg #[.int .u8 t, .int .u32 0, .int .u32 0, .slice (some ⟨g, 0, none⟩) 4 c]) ∧ Spells w' g v ∧ Below w.heap.size w w' := by
  go_enter Ybaf.func12, Ybaf.ntmps12
  go_wp2_with fail
  have h0 : (w.alloc (.cells #[.int .u8 0, .int .u32 0, .int .u32 0, .slice none 0 0] 25)).heap[w.heap.size]? = some (.cells #[.int .u8 0, .int .u32 0, .int .u32 0, .slice none 0 0] 25 (0, 0)) := heap_alloc_new _ _
  have s0 : (w.alloc (.cells #[.int .u8 0, .int .u32 0, .int .u32 0, .slice none 0 0] 25)).heap.size = w.heap.size + 1 := by simp
  refine (app_any v _ hv).mono ?_
  rintro e w1 ⟨g, c, rfl, hs, hb⟩
  rw [s0] at hb
  have h1 := (hb.block w.heap.size (by omega)).trans h0
  have c0 := cell_of_row w1 w.heap.size 0 _ _ _ h1
  have c1 := cell_of_row w1 w.heap.size 1 _ _ _ h1
  have c2 := cell_of_row w1 w.heap.size 2 _ _ _ h1
  have c3 := cell_of_row w1 w.heap.size 3 _ _ _ h1
  have f0 := frozen_of_row w1 w.heap.size 0 _ _ h1
  have f1 := frozen_of_row w1 w.heap.size 1 _ _ h1
  have f2 := frozen_of_row w1 w.heap.size 2 _ _ h1
  have f3 := frozen_of_row w1 w.heap.size 3 _ _ h1
  simp at c0 c1 c2 c3
  have HS := hid hs
  have HB := hid hb
  have H1 := hid h1
  clear hs hb h1 h0 s0
  go_wp2
  have hne := HS.out.apart H1.out (by simp)
  refine bodyPost_ret (results_cell_row rfl _ _ w.heap.size 25 _ (0, 0) _ rfl (laid_msg H1.out) Ybaf.underlying25 rfl Ybaf.size25) rfl ?_
  refine ⟨g, c, rfl, (((HS.out.set hne 0 _).set hne 1 _).set hne 2 _).set hne 3 _, ?_⟩
  have hb : Below w.heap.size w w1 := ((Below.refl _ w).alloc (Nat.le_refl _) _).trans (HB.out.mono (by omega))
  exact (((hb.setCell (Nat.le_refl _) _).setCell (Nat.le_refl _) _).setCell (Nat.le_refl _) _).setCell (Nat.le_refl _) _

set_option maxHeartbeats 400000 in
theorem msg7 (v : Nat) (w : World) (hv : v < 4294967296) :
    Calls Ybaf.prog 7 #[.int .u32 v] w fun e w' => ∃ g c, e = .returned (.agg #[.int .u8 1, .int .u32 0, .int .u32 0, .slice (some ⟨g, 0, none⟩) 4 c]) ∧ Spells w' g v ∧ Below w.heap.size w w' := by
  go_enter Ybaf.func7, Ybaf.ntmps7
  go_wp2_with fail
  have h0 : (w.alloc (.cells #[.int .u8 0, .int .u32 0, .int .u32 0, .slice none 0 0] 25)).heap[w.heap.size]? = some (.cells #[.int .u8 0, .int .u32 0, .int .u32 0, .slice none 0 0] 25 (0, 0)) := heap_alloc_new _ _
  have s0 : (w.alloc (.cells #[.int .u8 0, .int .u32 0, .int .u32 0, .slice none 0 0] 25)).heap.size = w.heap.size + 1 := by simp
  refine (msg_any 1 v _ hv).mono ?_
  rintro e w1 ⟨g, c, rfl, hs, hb⟩
  rw [s0] at hb
  have h1 := (hb.block w.heap.size (by omega)).trans h0
  have c0 := cell_of_row w1 w.heap.size 0 _ _ _ h1
  have c1 := cell_of_row w1 w.heap.size 1 _ _ _ h1
  have c2 := cell_of_row w1 w.heap.size 2 _ _ _ h1
  have c3 := cell_of_row w1 w.heap.size 3 _ _ _ h1
  have f0 := frozen_of_row w1 w.heap.size 0 _ _ h1
  have f1 := frozen_of_row w1 w.heap.size 1 _ _ h1
  have f2 := frozen_of_row w1 w.heap.size 2 _ _ h1
  have f3 := frozen_of_row w1 w.heap.size 3 _ _ h1
  simp at c0 c1 c2 c3
  have HS := hid hs
  have HB := hid hb
  have H1 := hid h1
  clear hs hb h1 h0 s0
  go_wp2
  have hne := HS.out.apart H1.out (by simp)
  refine bodyPost_ret (results_cell_row rfl _ _ w.heap.size 25 _ (0, 0) _ rfl (laid_msg H1.out) Ybaf.underlying25 rfl Ybaf.size25) rfl ?_
  refine ⟨g, c, rfl, (((HS.out.set hne 0 _).set hne 1 _).set hne 2 _).set hne 3 _, ?_⟩
  have hb : Below w.heap.size w w1 := ((Below.refl _ w).alloc (Nat.le_refl _) _).trans (HB.out.mono (by omega))
  exact (((hb.setCell (Nat.le_refl _) _).setCell (Nat.le_refl _) _).setCell (Nat.le_refl _) _).setCell (Nat.le_refl _) _

set_option maxHeartbeats 400000 in
theorem msg8 (v : Nat) (w : World) (hv : v < 4294967296) :
    Calls Ybaf.prog 8 #[.int .u32 v] w fun e w' => ∃ g c, e = .returned (.agg #[.int .u8 3, .int .u32 0, .int .u32 0, .slice (some ⟨g, 0, none⟩) 4 c]) ∧ Spells w' g v ∧ Below w.heap.size w w' := by
  go_enter Ybaf.func8, Ybaf.ntmps8
  go_wp2_with fail
  have h0 : (w.alloc (.cells #[.int .u8 0, .int .u32 0, .int .u32 0, .slice none 0 0] 25)).heap[w.heap.size]? = some (.cells #[.int .u8 0, .int .u32 0, .int .u32 0, .slice none 0 0] 25 (0, 0)) := heap_alloc_new _ _
  have s0 : (w.alloc (.cells #[.int .u8 0, .int .u32 0, .int .u32 0, .slice none 0 0] 25)).heap.size = w.heap.size + 1 := by simp
  refine (msg_any 3 v _ hv).mono ?_
  rintro e w1 ⟨g, c, rfl, hs, hb⟩
  rw [s0] at hb
  have h1 := (hb.block w.heap.size (by omega)).trans h0
  have c0 := cell_of_row w1 w.heap.size 0 _ _ _ h1
  have c1 := cell_of_row w1 w.heap.size 1 _ _ _ h1
  have c2 := cell_of_row w1 w.heap.size 2 _ _ _ h1
  have c3 := cell_of_row w1 w.heap.size 3 _ _ _ h1
  have f0 := frozen_of_row w1 w.heap.size 0 _ _ h1
  have f1 := frozen_of_row w1 w.heap.size 1 _ _ h1
  have f2 := frozen_of_row w1 w.heap.size 2 _ _ h1
  have f3 := frozen_of_row w1 w.heap.size 3 _ _ h1
  simp at c0 c1 c2 c3
  have HS := hid hs
  have HB := hid hb
  have H1 := hid h1
  clear hs hb h1 h0 s0
  go_wp2
  have hne := HS.out.apart H1.out (by simp)
  refine bodyPost_ret (results_cell_row rfl _ _ w.heap.size 25 _ (0, 0) _ rfl (laid_msg H1.out) Ybaf.underlying25 rfl Ybaf.size25) rfl ?_
  refine ⟨g, c, rfl, (((HS.out.set hne 0 _).set hne 1 _).set hne 2 _).set hne 3 _, ?_⟩
  have hb : Below w.heap.size w w1 := ((Below.refl _ w).alloc (Nat.le_refl _) _).trans (HB.out.mono (by omega))
  exact (((hb.setCell (Nat.le_refl _) _).setCell (Nat.le_refl _) _).setCell (Nat.le_refl _) _).setCell (Nat.le_refl _) _

set_option maxHeartbeats 400000 in
theorem msg9 (v : Nat) (w : World) (hv : v < 4294967296) :
    Calls Ybaf.prog 9 #[.int .u32 v] w fun e w' => ∃ g c, e = .returned (.agg #[.int .u8 5, .int .u32 0, .int .u32 0, .slice (some ⟨g, 0, none⟩) 4 c]) ∧ Spells w' g v ∧ Below w.heap.size w w' := by
  go_enter Ybaf.func9, Ybaf.ntmps9
  go_wp2_with fail
  have h0 : (w.alloc (.cells #[.int .u8 0, .int .u32 0, .int .u32 0, .slice none 0 0] 25)).heap[w.heap.size]? = some (.cells #[.int .u8 0, .int .u32 0, .int .u32 0, .slice none 0 0] 25 (0, 0)) := heap_alloc_new _ _
  have s0 : (w.alloc (.cells #[.int .u8 0, .int .u32 0, .int .u32 0, .slice none 0 0] 25)).heap.size = w.heap.size + 1 := by simp
  refine (msg_any 5 v _ hv).mono ?_
  rintro e w1 ⟨g, c, rfl, hs, hb⟩
  rw [s0] at hb
  have h1 := (hb.block w.heap.size (by omega)).trans h0
  have c0 := cell_of_row w1 w.heap.size 0 _ _ _ h1
  have c1 := cell_of_row w1 w.heap.size 1 _ _ _ h1
  have c2 := cell_of_row w1 w.heap.size 2 _ _ _ h1
  have c3 := cell_of_row w1 w.heap.size 3 _ _ _ h1
  have f0 := frozen_of_row w1 w.heap.size 0 _ _ h1
  have f1 := frozen_of_row w1 w.heap.size 1 _ _ h1
  have f2 := frozen_of_row w1 w.heap.size 2 _ _ h1
  have f3 := frozen_of_row w1 w.heap.size 3 _ _ h1
  simp at c0 c1 c2 c3
  have HS := hid hs
  have HB := hid hb
  have H1 := hid h1
  clear hs hb h1 h0 s0
  go_wp2
  have hne := HS.out.apart H1.out (by simp)
  refine bodyPost_ret (results_cell_row rfl _ _ w.heap.size 25 _ (0, 0) _ rfl (laid_msg H1.out) Ybaf.underlying25 rfl Ybaf.size25) rfl ?_
  refine ⟨g, c, rfl, (((HS.out.set hne 0 _).set hne 1 _).set hne 2 _).set hne 3 _, ?_⟩
  have hb : Below w.heap.size w w1 := ((Below.refl _ w).alloc (Nat.le_refl _) _).trans (HB.out.mono (by omega))
  exact (((hb.setCell (Nat.le_refl _) _).setCell (Nat.le_refl _) _).setCell (Nat.le_refl _) _).setCell (Nat.le_refl _) _

theorem cv_at (t : Int) (g c v : Nat) (w : World) (h : Spells w g v) (hv : v < 4294967296) :
    Calls Ybaf.prog 5 #[.agg #[.int .u8 t, .int .u32 0, .int .u32 0, .slice (some ⟨g, 0, none⟩) 4 c]] w fun e w' =>
      e = .returned (.tuple #[.int .u32 v, .nilIface]) ∧ Below w.heap.size w w' := by
  have := cv_long t 0 0 g 0 4 c (v / 16777216) (v / 65536 % 256) (v / 256 % 256) (v % 256) w (by omega) (by omega) (by omega) (by omega) (by omega) h.1 h.2.1 h.2.2.1 h.2.2.2
  rw [be4_spells] at this
  exact this

set_option maxRecDepth 100000 in
set_option maxHeartbeats 1000000 in
theorem rt_0 (x v : Nat) (w : World) (hv : v < 4294967296) (hx : x ≤ 255) (hr : ((x : Int) % 3) = 0) :
    Calls Ybaf.prog 4 #[.int .u8 x, .int .u32 v] w (LawOut w) := by
  have hr' : ((x : Int).tmod 3) = 0 := by rw [Int.tmod_eq_emod_of_nonneg (by omega)]; exact hr
  go_enter Ybaf.func4, Ybaf.ntmps4
  go_wp2_with fail
  have h0 : (w.alloc (.cells #[.int .u8 0, .int .u32 0, .int .u32 0, .slice none 0 0] 25)).heap[w.heap.size]? = some (.cells #[.int .u8 0, .int .u32 0, .int .u32 0, .slice none 0 0] 25 (0, 0)) := heap_alloc_new _ _
  have s0 : (w.alloc (.cells #[.int .u8 0, .int .u32 0, .int .u32 0, .slice none 0 0] 25)).heap.size = w.heap.size + 1 := by simp
  refine (msg7 v _ hv).mono ?_
  rintro e w1 ⟨g, c, rfl, hs, hb⟩
  rw [s0] at hb
  have h1 := (hb.block w.heap.size (by omega)).trans h0
  have c0 := cell_of_row w1 w.heap.size 0 _ _ _ h1
  have c1 := cell_of_row w1 w.heap.size 1 _ _ _ h1
  have c2 := cell_of_row w1 w.heap.size 2 _ _ _ h1
  have c3 := cell_of_row w1 w.heap.size 3 _ _ _ h1
  have f0 := frozen_of_row w1 w.heap.size 0 _ _ h1
  have f1 := frozen_of_row w1 w.heap.size 1 _ _ h1
  have f2 := frozen_of_row w1 w.heap.size 2 _ _ h1
  have f3 := frozen_of_row w1 w.heap.size 3 _ _ h1
  simp at c0 c1 c2 c3
  have HS := hid hs
  have HB := hid hb
  have H1 := hid h1
  clear hs hb h1 h0 s0
  have hne := HS.out.apart H1.out (by simp)
  have HS2 := fun a b c d => hid ((((HS.out.set hne 0 a).set hne 1 b).set hne 2 c).set hne 3 d)
  go_wp2_with fail
  refine (cv_at 1 g c v _ (HS2 _ _ _ _).out hv).mono ?_
  rintro e w2 ⟨rfl, hb2⟩
  have hb : Below w.heap.size w w1 := ((Below.refl _ w).alloc (Nat.le_refl _) _).trans (HB.out.mono (by omega))
  have hb3 := hid ((((hb.setCell (p := ⟨w.heap.size, 0, none⟩) (Nat.le_refl _) _).setCell (p := ⟨w.heap.size, 1, none⟩) (Nat.le_refl _) _).setCell (p := ⟨w.heap.size, 2, none⟩) (Nat.le_refl _) _).setCell (p := ⟨w.heap.size, 3, none⟩) (Nat.le_refl _) _ |>.trans (hb2.mono (by have := hb.size; simp; omega)))
  clear hb hb2
  go_wp2
  go_ret
  exact ⟨rfl, hb3.out⟩

set_option maxRecDepth 100000 in
set_option maxHeartbeats 1000000 in
theorem rt_1 (x v : Nat) (w : World) (hv : v < 4294967296) (hx : x ≤ 255) (hr : ((x : Int) % 3) = 1) :
    Calls Ybaf.prog 4 #[.int .u8 x, .int .u32 v] w (LawOut w) := by
  have hr' : ((x : Int).tmod 3) = 1 := by rw [Int.tmod_eq_emod_of_nonneg (by omega)]; exact hr
  go_enter Ybaf.func4, Ybaf.ntmps4
  go_wp2_with fail
  have h0 : (w.alloc (.cells #[.int .u8 0, .int .u32 0, .int .u32 0, .slice none 0 0] 25)).heap[w.heap.size]? = some (.cells #[.int .u8 0, .int .u32 0, .int .u32 0, .slice none 0 0] 25 (0, 0)) := heap_alloc_new _ _
  have s0 : (w.alloc (.cells #[.int .u8 0, .int .u32 0, .int .u32 0, .slice none 0 0] 25)).heap.size = w.heap.size + 1 := by simp
  refine (msg8 v _ hv).mono ?_
  rintro e w1 ⟨g, c, rfl, hs, hb⟩
  rw [s0] at hb
  have h1 := (hb.block w.heap.size (by omega)).trans h0
  have c0 := cell_of_row w1 w.heap.size 0 _ _ _ h1
  have c1 := cell_of_row w1 w.heap.size 1 _ _ _ h1
  have c2 := cell_of_row w1 w.heap.size 2 _ _ _ h1
  have c3 := cell_of_row w1 w.heap.size 3 _ _ _ h1
  have f0 := frozen_of_row w1 w.heap.size 0 _ _ h1
  have f1 := frozen_of_row w1 w.heap.size 1 _ _ h1
  have f2 := frozen_of_row w1 w.heap.size 2 _ _ h1
  have f3 := frozen_of_row w1 w.heap.size 3 _ _ h1
  simp at c0 c1 c2 c3
  have HS := hid hs
  have HB := hid hb
  have H1 := hid h1
  clear hs hb h1 h0 s0
  have hne := HS.out.apart H1.out (by simp)
  have HS2 := fun a b c d => hid ((((HS.out.set hne 0 a).set hne 1 b).set hne 2 c).set hne 3 d)
  go_wp2_with fail
  refine (cv_at 3 g c v _ (HS2 _ _ _ _).out hv).mono ?_
  rintro e w2 ⟨rfl, hb2⟩
  have hb : Below w.heap.size w w1 := ((Below.refl _ w).alloc (Nat.le_refl _) _).trans (HB.out.mono (by omega))
  have hb3 := hid ((((hb.setCell (p := ⟨w.heap.size, 0, none⟩) (Nat.le_refl _) _).setCell (p := ⟨w.heap.size, 1, none⟩) (Nat.le_refl _) _).setCell (p := ⟨w.heap.size, 2, none⟩) (Nat.le_refl _) _).setCell (p := ⟨w.heap.size, 3, none⟩) (Nat.le_refl _) _ |>.trans (hb2.mono (by have := hb.size; simp; omega)))
  clear hb hb2
  go_wp2
  go_ret
  exact ⟨rfl, hb3.out⟩

set_option maxRecDepth 100000 in
set_option maxHeartbeats 1000000 in
theorem rt_2 (x v : Nat) (w : World) (hv : v < 4294967296) (hx : x ≤ 255) (hr : ((x : Int) % 3) = 2) :
    Calls Ybaf.prog 4 #[.int .u8 x, .int .u32 v] w (LawOut w) := by
  have hr' : ((x : Int).tmod 3) = 2 := by rw [Int.tmod_eq_emod_of_nonneg (by omega)]; exact hr
  go_enter Ybaf.func4, Ybaf.ntmps4
  go_wp2_with fail
  have h0 : (w.alloc (.cells #[.int .u8 0, .int .u32 0, .int .u32 0, .slice none 0 0] 25)).heap[w.heap.size]? = some (.cells #[.int .u8 0, .int .u32 0, .int .u32 0, .slice none 0 0] 25 (0, 0)) := heap_alloc_new _ _
  have s0 : (w.alloc (.cells #[.int .u8 0, .int .u32 0, .int .u32 0, .slice none 0 0] 25)).heap.size = w.heap.size + 1 := by simp
  refine (msg9 v _ hv).mono ?_
  rintro e w1 ⟨g, c, rfl, hs, hb⟩
  rw [s0] at hb
  have h1 := (hb.block w.heap.size (by omega)).trans h0
  have c0 := cell_of_row w1 w.heap.size 0 _ _ _ h1
  have c1 := cell_of_row w1 w.heap.size 1 _ _ _ h1
  have c2 := cell_of_row w1 w.heap.size 2 _ _ _ h1
  have c3 := cell_of_row w1 w.heap.size 3 _ _ _ h1
  have f0 := frozen_of_row w1 w.heap.size 0 _ _ h1
  have f1 := frozen_of_row w1 w.heap.size 1 _ _ h1
  have f2 := frozen_of_row w1 w.heap.size 2 _ _ h1
  have f3 := frozen_of_row w1 w.heap.size 3 _ _ h1
  simp at c0 c1 c2 c3
  have HS := hid hs
  have HB := hid hb
  have H1 := hid h1
  clear hs hb h1 h0 s0
  have hne := HS.out.apart H1.out (by simp)
  have HS2 := fun a b c d => hid ((((HS.out.set hne 0 a).set hne 1 b).set hne 2 c).set hne 3 d)
  go_wp2_with fail
  refine (cv_at 5 g c v _ (HS2 _ _ _ _).out hv).mono ?_
  rintro e w2 ⟨rfl, hb2⟩
  have hb : Below w.heap.size w w1 := ((Below.refl _ w).alloc (Nat.le_refl _) _).trans (HB.out.mono (by omega))
  have hb3 := hid ((((hb.setCell (p := ⟨w.heap.size, 0, none⟩) (Nat.le_refl _) _).setCell (p := ⟨w.heap.size, 1, none⟩) (Nat.le_refl _) _).setCell (p := ⟨w.heap.size, 2, none⟩) (Nat.le_refl _) _).setCell (p := ⟨w.heap.size, 3, none⟩) (Nat.le_refl _) _ |>.trans (hb2.mono (by have := hb.size; simp; omega)))
  clear hb hb2
  go_wp2
  go_ret
  exact ⟨rfl, hb3.out⟩

theorem rt_any (x v : Nat) (w : World) (hv : v < 4294967296) (hx : x ≤ 255) : Calls Ybaf.prog 4 #[.int .u8 x, .int .u32 v] w (LawOut w) := by
  have h : ((x : Int) % 3) = 0 ∨ ((x : Int) % 3) = 1 ∨ ((x : Int) % 3) = 2 := by omega
  rcases h with h | h | h
  · exact rt_0 x v w hv hx h
  · exact rt_1 x v w hv hx h
  · exact rt_2 x v w hv hx h
end Go.Proofs.YbulkhvmFmt
