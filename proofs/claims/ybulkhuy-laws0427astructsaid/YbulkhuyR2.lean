/-
  What lookupEmbedded's second round keeps.
-/
import Derived.Test.YbulkhuyPlain
namespace Go.Proofs.Ybulkhuy
open Go.RowKit

/-- What lookupEmbedded answers at a struct: cnt, last: the fields of the asked name; st: the hits in the second round, and the last of them. -/
def OutS (w : World) (cnt last : Nat) (st : Nat × Nat) (ind : Bool) (V kd tg : Nat → Nat) (mi : Nat → Option Nat) (MB : Nat → Nat → Nat) (e : Ending) (w' : World) : Prop :=
  ((0 < cnt ∧ ∃ g, e = .returned (.tuple #[if 1 < cnt then .nilIface else .iface 54 (.pointer (some ⟨V last, 0, none⟩)), .slice (some ⟨g, 0, none⟩) 1 1, .bool (if 1 < cnt then false else ind)]) ∧ w'.cell? ⟨g, 0, none⟩ = some (.int .i64 last)) ∨
   (cnt = 0 ∧ 0 < st.1 ∧ ∃ t g, mi (tg st.2) = some t ∧
      e = .returned (.tuple #[if 1 < st.1 then .nilIface else .iface 44 (.pointer (some ⟨MB (tg st.2) t, 0, none⟩)), .slice (some ⟨g, 0, none⟩) 2 2, .bool (if 1 < st.1 then false else (ind || decide (kd st.2 = 2)))]) ∧
      w'.cell? ⟨g, 0, none⟩ = some (.int .i64 st.2) ∧ w'.cell? ⟨g, 1, none⟩ = some (.int .i64 t)) ∨
   (cnt = 0 ∧ st.1 = 0 ∧ e = .returned (.tuple #[.nilIface, .slice none 0 0, .bool false]))) ∧ Below w.heap.size w w'

theorem OutS.many {w w' : World} {cnt last : Nat} {st : Nat × Nat} {ind : Bool} {V kd tg : Nat → Nat} {mi : Nat → Option Nat} {MB : Nat → Nat → Nat} {g : Nat} (h : 1 < cnt) (hc : w'.cell? ⟨g, 0, none⟩ = some (.int .i64 last)) (hb : Below w.heap.size w w') :
    OutS w cnt last st ind V kd tg mi MB (.returned (.tuple #[.nilIface, .slice (some ⟨g, 0, none⟩) 1 1, .bool false])) w' :=
  ⟨.inl ⟨by omega, g, by rw [if_pos h, if_pos h], hc⟩, hb⟩
theorem OutS.one {w w' : World} {cnt last : Nat} {st : Nat × Nat} {ind : Bool} {V kd tg : Nat → Nat} {mi : Nat → Option Nat} {MB : Nat → Nat → Nat} {g : Nat} (h : cnt = 1) (hc : w'.cell? ⟨g, 0, none⟩ = some (.int .i64 last)) (hb : Below w.heap.size w w') :
    OutS w cnt last st ind V kd tg mi MB (.returned (.tuple #[.iface 54 (.pointer (some ⟨V last, 0, none⟩)), .slice (some ⟨g, 0, none⟩) 1 1, .bool ind])) w' :=
  ⟨.inl ⟨by omega, g, by rw [if_neg (by omega), if_neg (by omega)], hc⟩, hb⟩
theorem OutS.many2 {w w' : World} {cnt last : Nat} {st : Nat × Nat} {ind : Bool} {V kd tg : Nat → Nat} {mi : Nat → Option Nat} {MB : Nat → Nat → Nat} {t g : Nat} (h0 : cnt = 0) (h : 1 < st.1) (hm : mi (tg st.2) = some t) (hc : w'.cell? ⟨g, 0, none⟩ = some (.int .i64 st.2)) (hd : w'.cell? ⟨g, 1, none⟩ = some (.int .i64 t)) (hb : Below w.heap.size w w') :
    OutS w cnt last st ind V kd tg mi MB (.returned (.tuple #[.nilIface, .slice (some ⟨g, 0, none⟩) 2 2, .bool false])) w' :=
  ⟨.inr (.inl ⟨h0, by omega, t, g, hm, by rw [if_pos h, if_pos h], hc, hd⟩), hb⟩
theorem OutS.one2 {w w' : World} {cnt last : Nat} {st : Nat × Nat} {ind : Bool} {V kd tg : Nat → Nat} {mi : Nat → Option Nat} {MB : Nat → Nat → Nat} {t g : Nat} (h0 : cnt = 0) (h : st.1 = 1) (hm : mi (tg st.2) = some t) (hc : w'.cell? ⟨g, 0, none⟩ = some (.int .i64 st.2)) (hd : w'.cell? ⟨g, 1, none⟩ = some (.int .i64 t)) (hb : Below w.heap.size w w') :
    OutS w cnt last st ind V kd tg mi MB (.returned (.tuple #[.iface 44 (.pointer (some ⟨MB (tg st.2) t, 0, none⟩)), .slice (some ⟨g, 0, none⟩) 2 2, .bool (ind || decide (kd st.2 = 2))])) w' :=
  ⟨.inr (.inl ⟨h0, by omega, t, g, hm, by rw [if_neg (by omega), if_neg (by omega)], hc, hd⟩), hb⟩
theorem OutS.zero {w w' : World} {cnt last : Nat} {st : Nat × Nat} {ind : Bool} {V kd tg : Nat → Nat} {mi : Nat → Option Nat} {MB : Nat → Nat → Nat} (h0 : cnt = 0) (h : st.1 = 0) (hb : Below w.heap.size w w') :
    OutS w cnt last st ind V kd tg mi MB (.returned (.tuple #[.nilIface, .slice none 0 0, .bool false])) w' :=
  ⟨.inr (.inr ⟨h0, h, rfl⟩), hb⟩

/-- A Named in memory: its (empty) struct, its methods. -/
structure NamedAt (W : World) (P b S : Nat) (ao : Option Addr) (cn cp : Nat) (MB MI : Nat → Nat) : Prop where
  blk : W.heap[b]? = some (.cells #[.pointer none, .iface 32 (.pointer (some ⟨S, 0, none⟩)), .slice ao cn cp] 42 (0, 0))
  str : W.cell? ⟨S, 0, none⟩ = some (.slice none 0 0)
  fns : Funcs W ao cn P MB MI
  le : cn ≤ 4

theorem NamedAt.below {W W' : World} {P b S : Nat} {ao : Option Addr} {cn cp : Nat} {MB MI : Nat → Nat} (h : NamedAt W P b S ao cn cp MB MI) (hb : Below W.heap.size W W') : NamedAt W' P b S ao cn cp MB MI :=
  ⟨(hb.block b (lt_of_block h.blk)).trans h.blk, (hb.cell (p := ⟨S, 0, none⟩) (World.block_lt_of_cell? W _ h.str)).trans h.str, h.fns.below hb, h.le⟩

/-- Behind p entries of the second round. W7: the world in which its loop begins. -/
structure R2 (W7 wr : World) (C Mb p : Nat) (ind : Bool) (mi : Nat → Option Nat) (N tg kd : Nat → Nat) (MB : Nat → Nat → Nat) (ms : List (Nat × Bool)) : Prop where
  fr : Fr (fun k => (C ≤ k ∧ k ≤ C + 3) ∨ k = Mb) W7 wr
  acc : ∃ obj ix ind', Acc wr (C + 1 + 1 + 1) C (C + 1) (C + 1 + 1) (foldM mi tg (ms.take p)).1 obj ix ind' ∧
    (0 < (foldM mi tg (ms.take p)).1 → ∃ t g, mi (tg (foldM mi tg (ms.take p)).2) = some t ∧ obj = .iface 44 (.pointer (some ⟨MB (tg (foldM mi tg (ms.take p)).2) t, 0, none⟩)) ∧ ind' = (ind || decide (kd (foldM mi tg (ms.take p)).2 = 2)) ∧
      ix = .slice (some ⟨g, 0, none⟩) 2 2 ∧ wr.heap[g]? = some (.cells #[.int .i64 (foldM mi tg (ms.take p)).2, .int .i64 t] 3 (0, 0)))
  map : ∃ ents clk, wr.heap[Mb]? = some (.map ents clk) ∧ ents.toList.map (·.key) = ((ms.take p).map (fun x => N (tg x.1))).map ptr

/-- The map block written anew. -/
theorem R2.mark {W7 wr wr' : World} {C Mb p : Nat} {ind : Bool} {mi : Nat → Option Nat} {N tg kd : Nat → Nat} {MB : Nat → Nat → Nat} {ms : List (Nat × Bool)} (h : R2 W7 wr C Mb p ind mi N tg kd MB ms)
    {x : Nat × Bool} (hx : ms[p]? = some x) (hmi : mi (tg x.1) = none) {ents : Array MapEntry} {clk : Nat}
    (hf : Fr (fun k => k = Mb) wr wr') (hm : wr'.heap[Mb]? = some (.map ents clk)) (hk : ents.toList.map (·.key) = ((ms.take (p + 1)).map (fun x => N (tg x.1))).map ptr) :
    R2 W7 wr' C Mb (p + 1) ind mi N tg kd MB ms := by
  have e : foldM mi tg (ms.take (p + 1)) = foldM mi tg (ms.take p) := by
    rw [List.take_add_one, hx]
    simp only [Option.toList_some]
    rw [foldM_snoc]
    simp [stepM, hmi]
  have hkeep : ∀ (k : Nat) (c : Array Value) (t : TypeId) (fr : Nat × Nat), wr.heap[k]? = some (Obj.cells c t fr) → wr'.heap[k]? = some (Obj.cells c t fr) := by
    intro k c t fr hc
    have hne : k ≠ Mb := by
      rintro rfl
      obtain ⟨e1, c1, h1, _⟩ := h.map
      rw [h1] at hc
      cases hc
    exact (hf.block k (lt_of_block hc) hne).trans hc
  refine ⟨h.fr.trans (hf.mono (fun k _ hk => .inr hk)), ?_, ents, clk, hm, hk⟩
  rw [e]
  obtain ⟨obj, ix, ind', hA, hp⟩ := h.acc
  refine ⟨obj, ix, ind', ⟨hkeep _ _ _ _ hA.h0, hkeep _ _ _ _ hA.h1, hkeep _ _ _ _ hA.h2, hkeep _ _ _ _ hA.h3⟩, fun h0 => ?_⟩
  obtain ⟨t, g, a1, a2, a3, a4, a5⟩ := hp h0
  exact ⟨t, g, a1, a2, a3, a4, hkeep _ _ _ _ a5⟩

/-- A hit. -/
theorem R2.hit {W7 wr wr' : World} {C Mb p : Nat} {ind : Bool} {mi : Nat → Option Nat} {N tg kd : Nat → Nat} {MB : Nat → Nat → Nat} {ms : List (Nat × Bool)} {t g : Nat} (h : R2 W7 wr C Mb p ind mi N tg kd MB ms)
    {x : Nat × Bool} (hx : ms[p]? = some x) (hmi : mi (tg x.1) = some t) {ents : Array MapEntry} {clk : Nat}
    (hA : Acc wr' (C + 1 + 1 + 1) C (C + 1) (C + 1 + 1) (((foldM mi tg (ms.take p)).1 : Int) + if x.2 then 2 else 1) (.iface 44 (.pointer (some ⟨MB (tg x.1) t, 0, none⟩))) (.slice (some ⟨g, 0, none⟩) 2 2) (ind || decide (kd x.1 = 2)))
    (hg : wr'.heap[g]? = some (.cells #[.int .i64 x.1, .int .i64 t] 3 (0, 0)))
    (hf : Fr (fun k => (C ≤ k ∧ k ≤ C + 3) ∨ k = Mb) wr wr') (hm : wr'.heap[Mb]? = some (.map ents clk)) (hk : ents.toList.map (·.key) = ((ms.take (p + 1)).map (fun x => N (tg x.1))).map ptr) :
    R2 W7 wr' C Mb (p + 1) ind mi N tg kd MB ms := by
  have e : foldM mi tg (ms.take (p + 1)) = ((foldM mi tg (ms.take p)).1 + (if x.2 then 2 else 1), x.1) := by
    rw [List.take_add_one, hx]
    simp only [Option.toList_some]
    rw [foldM_snoc]
    simp [stepM, hmi]
  refine ⟨h.fr.trans hf, ?_, ents, clk, hm, hk⟩
  rw [e]
  refine ⟨_, _, _, ?_, fun _ => ⟨t, g, hmi, rfl, rfl, rfl, hg⟩⟩
  have e2 : (((foldM mi tg (ms.take p)).1 : Int) + if x.2 then 2 else 1) = (((foldM mi tg (ms.take p)).1 + (if x.2 then 2 else 1) : Nat) : Int) := by
    cases x.2 <;> simp
  rw [e2] at hA
  exact hA
end Go.Proofs.Ybulkhuy
