/-
  Maps keyed by pointers to whole blocks: look-up and store.
-/
import Derived.Test.YbulkhuyFr
import Derived.LaidEqlPtr
import Derived.MapKept
import Derived.ChangeMaps4
namespace Go.Proofs.Ybulkhuy
open Go.RowKit

theorem Yba.info42 : (Yba.prog.info? 42).map (fun i => i.size) = some 3 := by kernel_rfl

/-- A block of cells, none of them frozen. -/
def Blk (W : World) (b : Nat) : Prop := ∃ c t, W.heap[b]? = some (.cells c t (0, 0))

abbrev ptr (b : Nat) : Value := .pointer (some ⟨b, 0, none⟩)

theorem run_equal30 (W : World) (a b : Nat) (ha : Blk W a) (hb : Blk W b) : (Op.equal 30 (ptr a) (ptr b)).run Yba.prog W = .ok (a == b) W := by
  obtain ⟨j, hj, hs⟩ := Option.map_eq_some_iff.1 Yba.info42
  obtain ⟨ca, ta, ha⟩ := ha
  obtain ⟨cb, tb, hb⟩ := hb
  by_cases e : a = b
  · subst e
    have h : ∀ d : Nat, (Op.equalIn (d + 1) 30 (ptr a) (ptr a)).run Yba.prog W = .ok true W := fun d => by
      simp [Op.equalIn, run_underlying Yba.underlying30, sizeOf, typeInfo, hj, run_sameAddr_same]
    simp [Op.equal, Op.maxDepth, h 9999]
  · have hne : (⟨a, 0, none⟩ : Addr) ≠ ⟨b, 0, none⟩ := by intro h; injection h with h1; exact e h1
    have h : ∀ d : Nat, (Op.equalIn (d + 1) 30 (ptr a) (ptr b)).run Yba.prog W = .ok false W := fun d => by
      simp [Op.equalIn, run_underlying Yba.underlying30, sizeOf, typeInfo, hj, hs, run_sameAddr_other W hne ha hb]
    simp [Op.equal, Op.maxDepth, h 9999, e]

theorem check30 (W : World) (em : Bool) (b : Nat) : (Instr.checkKey em 10000 30 (ptr b)).run Yba.prog W = .ok () W := by
  have h : ∀ n : Nat, (Instr.checkKey em (n + 1) 30 (ptr b)).run Yba.prog W = .ok () W := fun n => by
    simp [Instr.checkKey, run_underlying Yba.underlying30]
  exact h 9999

theorem find_none (W : World) (b : Nat) (hb : Blk W b) : ∀ (es : List MapEntry) (K : List Nat) (i : Nat), es.map (·.key) = K.map ptr → (∀ a ∈ K, Blk W a) → b ∉ K →
    (Instr.findAsking 30 (ptr b) es i).run Yba.prog W = .ok none W
  | [], _, _, _, _, _ => by simp [Instr.findAsking]
  | e :: es, [], _, h, _, _ => by simp at h
  | e :: es, a :: K, i, h, hK, hn => by
    simp only [List.map_cons, List.cons.injEq] at h
    have ha := hK a (by simp)
    have hne : (b == a) = false := by simp at hn; simpa using hn.1
    have ih := find_none W b hb es K (i + 1) h.2 (fun x hx => hK x (by simp [hx])) (fun hx => hn (by simp [hx]))
    simp [Instr.findAsking, h.1, run_equal30 W b a hb ha, hne, ih]

theorem find_some (W : World) (b : Nat) (hb : Blk W b) : ∀ (es : List MapEntry) (K : List Nat) (i p : Nat) (v : Value), es.map (·.key) = K.map ptr → (∀ a ∈ K, Blk W a) → K[p]? = some b → (∀ q, q < p → K[q]? ≠ some b) → (es[p]?).map (·.val) = some v →
    (Instr.findAsking 30 (ptr b) es i).run Yba.prog W = .ok (some (i + p, v)) W
  | [], _, _, _, _, _, _, _, _, hv => by simp at hv
  | e :: es, [], _, _, _, h, _, _, _, _ => by simp at h
  | e :: es, a :: K, i, p, v, h, hK, hp, hq, hv => by
    simp only [List.map_cons, List.cons.injEq] at h
    have ha := hK a (by simp)
    match p, hp, hq, hv with
    | 0, hp, _, hv =>
      simp at hp hv
      subst hp hv
      simp [Instr.findAsking, h.1, run_equal30 W a a hb ha]
    | p + 1, hp, hq, hv =>
      have hne : (b == a) = false := by
        have := hq 0 (by omega)
        simp at this
        simpa using fun e => this e.symm
      have ih := find_some W b hb es K (i + 1) p v h.2 (fun x hx => hK x (by simp [hx])) (by simpa using hp) (fun q hq' => by simpa using hq (q + 1) (by omega)) (by simpa using hv)
      rw [show i + (p + 1) = i + 1 + p from by omega]
      simp [Instr.findAsking, h.1, run_equal30 W b a hb ha, hne, ih]

theorem findKey_eq (W : World) (b : Nat) (es : List MapEntry) (r : Option (Nat × Value)) (hk : ∀ e ∈ es, ∃ a, e.key = ptr a) (h : (Instr.findAsking 30 (ptr b) es 0).run Yba.prog W = .ok r W) :
    (Instr.findKey 30 (ptr b) es).run Yba.prog W = .ok r W := by
  cases es with
  | nil =>
    simp [Instr.findAsking] at h
    simp [Instr.findKey, run_underlying Yba.underlying30, Instr.findNow, h]
  | cons e es =>
    obtain ⟨a, ha⟩ := hk e (by simp)
    simp [Instr.findKey, run_underlying Yba.underlying30, Instr.findNow, ha, Instr.sameNow, h]

theorem keys_ptr {es : List MapEntry} {K : List Nat} (h : es.map (·.key) = K.map ptr) : ∀ e ∈ es, ∃ a, e.key = ptr a := by
  intro e he
  have : e.key ∈ K.map ptr := h ▸ List.mem_map_of_mem he
  obtain ⟨a, _, ha⟩ := List.mem_map.1 this
  exact ⟨a, ha.symm⟩

theorem look80_none (W : World) (r b clock : Nat) (es : Array MapEntry) (K : List Nat) (hr : W.heap[r]? = some (.map es clock)) (h : es.toList.map (·.key) = K.map ptr) (hK : ∀ a ∈ K, Blk W a) (hb : Blk W b) (hn : b ∉ K) :
    (Instr.lookup 80 (.map (some r)) (ptr b) false).run Yba.prog W = .ok (.bool false) W := by
  have hf := findKey_eq W b es.toList none (keys_ptr h) (find_none W b hb _ K 0 h hK hn)
  have hz : (zeroValue 4).run Yba.prog W = .ok (.bool false) W := by kernel_rfl
  simp [Instr.lookup, run_underlying Yba.underlying80, MapKept.run_getObj_map hr, check30, hf, hz]

theorem look94_none (W : World) (r b clock : Nat) (es : Array MapEntry) (K : List Nat) (hr : W.heap[r]? = some (.map es clock)) (h : es.toList.map (·.key) = K.map ptr) (hK : ∀ a ∈ K, Blk W a) (hb : Blk W b) (hn : b ∉ K) :
    (Instr.lookup 94 (.map (some r)) (ptr b) true).run Yba.prog W = .ok (.tuple #[.int .i64 0, .bool false]) W := by
  have hf := findKey_eq W b es.toList none (keys_ptr h) (find_none W b hb _ K 0 h hK hn)
  have hz : (zeroValue 3).run Yba.prog W = .ok (.int .i64 0) W := by kernel_rfl
  simp [Instr.lookup, run_underlying Yba.underlying94, MapKept.run_getObj_map hr, check30, hf, hz]

theorem look94_some (W : World) (r b clock p : Nat) (v : Value) (es : Array MapEntry) (K : List Nat) (hr : W.heap[r]? = some (.map es clock)) (h : es.toList.map (·.key) = K.map ptr) (hK : ∀ a ∈ K, Blk W a) (hb : Blk W b)
    (hp : K[p]? = some b) (hq : ∀ q, q < p → K[q]? ≠ some b) (hv : (es.toList[p]?).map (·.val) = some v) :
    (Instr.lookup 94 (.map (some r)) (ptr b) true).run Yba.prog W = .ok (.tuple #[v, .bool true]) W := by
  have hf := findKey_eq W b es.toList _ (keys_ptr h) (find_some W b hb _ K 0 p v h hK hp hq hv)
  simp [Instr.lookup, run_underlying Yba.underlying94, MapKept.run_getObj_map hr, check30, hf]

theorem store_new (T : TypeId) (E : TypeId) (hT : Yba.prog.underlying T = some (.map 30 E)) (W : World) (r b clock : Nat) (v : Value) (es : Array MapEntry) (K : List Nat) (hr : W.heap[r]? = some (.map es clock)) (h : es.toList.map (·.key) = K.map ptr) (hK : ∀ a ∈ K, Blk W a) (hb : Blk W b) (hn : b ∉ K) :
    (Instr.mapUpdate T (.map (some r)) (ptr b) v).run Yba.prog W = .ok () (ChangeMaps.setBlock W r (.map (es.push { key := ptr b, val := v, born := clock }) (clock + 1))) := by
  have hf := findKey_eq W b es.toList none (keys_ptr h) (find_none W b hb _ K 0 h hK hn)
  simp [Instr.mapUpdate, run_underlying hT, MapKept.run_getObj_map hr, check30, hf, MapKept.run_setObj_map _ hr, ChangeMaps.setBlock]
end Go.Proofs.Ybulkhuy
