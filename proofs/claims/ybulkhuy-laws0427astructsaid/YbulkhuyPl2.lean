/-
  The plain side of LawS0427AStruct: the bits of a mask, first places, doubles; the law's own count is the merge's.
-/
import Derived.Test.YbulkhuyPlain
namespace Go.Proofs.Ybulkhuy
open Go.RowKit

/-- The set bits of m below t, in order. -/
def bl (m : Nat) : Nat → List Nat
  | 0 => []
  | t + 1 => bl m t ++ (if m / 2 ^ t % 2 = 1 then [t] else [])
def vis (s : Nat) (use : Bool) : Bool := use || decide (s < 2)
def bitB (m s : Nat) : Bool := decide (m / 2 ^ s % 2 = 1)
def miF (m s : Nat) (use : Bool) : Option Nat := if vis s use && bitB m s then some (bl m s).length else none

theorem bl_len (m t : Nat) : (bl m t).length ≤ t := by
  induction t with
  | zero => simp [bl]
  | succ t ih => simp only [bl, List.length_append]; split <;> simp <;> omega
theorem bl_lt (m t j : Nat) (h : j ∈ bl m t) : j < t := by
  induction t with
  | zero => simp [bl] at h
  | succ t ih =>
    simp only [bl, List.mem_append] at h
    rcases h with h | h
    · have := ih h; omega
    · split at h
      · simp at h; omega
      · cases h

def hitOk (m s : Nat) (use : Bool) : Bool :=
  match miF m s use with
  | some t => decide (t < (bl m 4).length) && sameB ((bl m 4).getD t 0) s use && (List.range t).all (fun j => !sameB ((bl m 4).getD j 0) s use)
  | none => (List.range (bl m 4).length).all (fun j => !sameB ((bl m 4).getD j 0) s use)

theorem hitOk_all : ∀ m, m < 16 → ∀ s, s < 4 → ∀ use, hitOk m s use = true := by decide

theorem hit_mi (m s : Nat) (use : Bool) (hm : m < 16) (hs : s < 4) : Hit (fun j => (bl m 4).getD j 0) s use (bl m 4).length (match miF m s use with | some t => (t : Int) | none => -1) := by
  have h := hitOk_all m hm s hs use
  unfold hitOk at h
  cases hf : miF m s use with
  | none =>
    rw [hf] at h
    refine .inr ⟨rfl, fun j hj => ?_⟩
    have := List.all_eq_true.1 h j (List.mem_range.2 hj)
    simpa using this
  | some t =>
    rw [hf] at h
    simp only [Bool.and_eq_true, decide_eq_true_eq] at h
    refine .inl ⟨t, h.1.1, rfl, h.1.2, fun j hj => ?_⟩
    have := List.all_eq_true.1 h.2 j (List.mem_range.2 hj)
    simpa using this

section
variable (kd tg : Nat → Nat)
/-- The first embedded field of target k among the first p. -/
def fi (k : Nat) : Nat → Option Nat
  | 0 => none
  | p + 1 => if kd p ≠ 0 ∧ tg p = k then (match fi k p with | some x => some x | none => some p) else fi k p
/-- Is there a second one? -/
def du (k : Nat) : Nat → Bool
  | 0 => false
  | p + 1 => if kd p ≠ 0 ∧ tg p = k ∧ (fi kd tg k p).isSome then true else du k p

theorem fi_spec (k p i : Nat) (h : fi kd tg k p = some i) : i < p ∧ kd i ≠ 0 ∧ tg i = k := by
  induction p with
  | zero => cases h
  | succ p ih =>
    simp only [fi] at h
    split at h
    · rename_i hc
      cases hf : fi kd tg k p with
      | some x =>
        rw [hf] at h ih
        simp only [Option.some.injEq] at h
        subst h
        obtain ⟨h1, h2⟩ := ih rfl
        exact ⟨by omega, h2⟩
      | none =>
        rw [hf] at h
        simp only [Option.some.injEq] at h
        subst h
        exact ⟨by omega, hc⟩
    · obtain ⟨h1, h2⟩ := ih h
      exact ⟨by omega, h2⟩

theorem fi_none (k p : Nat) (h : fi kd tg k p = none) : ∀ i, i < p → kd i ≠ 0 → tg i ≠ k := by
  induction p with
  | zero => intro i hi; omega
  | succ p ih =>
    simp only [fi] at h
    split at h
    · cases hf : fi kd tg k p with
      | some x => rw [hf] at h; cases h
      | none => rw [hf] at h; cases h
    · rename_i hc
      intro i hi hk ht
      rcases Nat.lt_succ_iff_lt_or_eq.1 hi with hi | rfl
      · exact ih h i hi hk ht
      · exact hc ⟨hk, ht⟩

theorem fi_keep (k p x : Nat) (h : fi kd tg k p = some x) : fi kd tg k (p + 1) = some x := by
  simp only [fi]
  split
  · rw [h]
  · exact h

theorem du_none (k p : Nat) (h : fi kd tg k p = none) : du kd tg k p = false := by
  induction p with
  | zero => rfl
  | succ p ih =>
    have hp : fi kd tg k p = none := by
      cases hf : fi kd tg k p with
      | none => rfl
      | some x => rw [fi_keep kd tg k p x hf] at h; cases h
    simp only [du]
    rw [if_neg (by rw [hp]; simp)]
    exact ih hp

/-- The embedded fields. -/
def emb (p : Nat) : List Nat := embI (fun _ => false) kd p
theorem emb_succ (p : Nat) : emb kd (p + 1) = emb kd p ++ (if kd p ≠ 0 then [p] else []) := by simp [emb, embI]

def firsts (q p : Nat) : List Nat := (List.range p).filter (fun i => decide (kd i ≠ 0) && (fi kd tg (tg i) q == some i))
def marked (q p : Nat) : List (Nat × Bool) := (firsts kd tg q p).map (fun i => (i, du kd tg (tg i) q))

theorem firsts_succ (q p : Nat) : firsts kd tg q (p + 1) = firsts kd tg q p ++ (if kd p ≠ 0 ∧ fi kd tg (tg p) q = some p then [p] else []) := by
  simp only [firsts, List.range_succ, List.filter_append]
  congr 1
  by_cases h : kd p ≠ 0 ∧ fi kd tg (tg p) q = some p
  · rw [if_pos h]; simp [h.1, h.2]
  · rw [if_neg h]
    simp only [List.filter_cons, List.filter_nil]
    rw [if_neg]
    intro hc
    simp at hc
    exact h hc

theorem modify_unique {ms : List (Nat × Bool)} {p k : Nat} (hnd : (ms.map (fun x => tg x.1)).Nodup) (hf : ms.findIdx? (fun x => tg x.1 == k) = some p) :
    ms.modify p (fun x => (x.1, true)) = ms.map (fun x => if tg x.1 = k then (x.1, true) else x) := by
  obtain ⟨hp, h1, h2⟩ := List.findIdx?_eq_some_iff_getElem.1 hf
  apply List.ext_getElem?
  intro q
  rw [List.getElem?_modify, List.getElem?_map]
  cases hq : ms[q]? with
  | none => simp
  | some y =>
    by_cases e : p = q
    · subst e
      have : ms[p] = y := by rw [List.getElem?_eq_getElem hp] at hq; simpa using hq
      subst this
      have h1' : tg ms[p].1 = k := by simpa using h1
      simp [h1']
    · have hne : tg y.1 ≠ k := by
        intro hk
        have hql : q < ms.length := (List.getElem?_eq_some_iff.1 hq).1
        have e1 : (ms.map (fun x => tg x.1))[q]'(by simpa using hql) = k := by
          simp only [List.getElem_map]
          have : ms[q] = y := by rw [List.getElem?_eq_getElem hql] at hq; simpa using hq
          rw [this]; exact hk
        have e2 : (ms.map (fun x => tg x.1))[p]'(by simpa using hp) = k := by
          simp only [List.getElem_map]; simpa using h1
        exact e ((List.getElem_inj hnd).1 (e2.trans e1.symm))
      simp [e, hne]

theorem merge_firsts (p : Nat) : mergeM tg (emb kd p) = marked kd tg p p := by
  induction p with
  | zero => rfl
  | succ p ih =>
    rw [emb_succ]
    by_cases hk : kd p = 0
    · have hfi : ∀ k, fi kd tg k (p + 1) = fi kd tg k p := fun k => by simp [fi, hk]
      have hdu : ∀ k, du kd tg k (p + 1) = du kd tg k p := fun k => by simp [du, hk]
      have hF : firsts kd tg (p + 1) p = firsts kd tg p p := by simp only [firsts, hfi]
      rw [if_neg (by simp [hk]), List.append_nil, ih]
      unfold marked
      rw [firsts_succ, if_neg (by simp [hk]), List.append_nil, hF]
      simp only [hdu]
    · rw [if_pos hk]
      have hm : mergeM tg (emb kd p ++ [p]) = addM tg (mergeM tg (emb kd p)) p := by simp [mergeM]
      rw [hm]
      have hnd := mergeM_nodup tg (emb kd p)
      rw [ih] at hnd ⊢
      have hother : ∀ k, k ≠ tg p → fi kd tg k (p + 1) = fi kd tg k p ∧ du kd tg k (p + 1) = du kd tg k p := fun k hk' => by
        have h1 : ¬ (tg p = k) := fun e => hk' e.symm
        simp [fi, du, h1]
      cases hf : fi kd tg (tg p) p with
      | none =>
        have hno : ∀ i, i < p → kd i ≠ 0 → tg i ≠ tg p := fi_none kd tg (tg p) p hf
        have hidx : (marked kd tg p p).findIdx? (fun x => tg x.1 == tg p) = none := by
          rw [List.findIdx?_eq_none_iff]
          intro x hx
          simp only [marked, List.mem_map, firsts, List.mem_filter, List.mem_range] at hx
          obtain ⟨i, ⟨h1, h2⟩, rfl⟩ := hx
          simp at h2
          simp [hno i h1 h2.1]
        unfold addM
        rw [hidx]
        simp only
        have hfp : fi kd tg (tg p) (p + 1) = some p := by simp [fi, hk, hf]
        have hdp : du kd tg (tg p) (p + 1) = false := by simp [du, hf, du_none kd tg (tg p) p hf]
        unfold marked
        rw [firsts_succ, if_pos ⟨hk, hfp⟩, List.map_append]
        congr 1
        · have hF : firsts kd tg (p + 1) p = firsts kd tg p p := by
            unfold firsts
            apply List.filter_congr
            intro i hi
            have hi' := List.mem_range.1 hi
            by_cases hki : kd i = 0
            · simp [hki]
            · rw [(hother _ (hno i hi' hki)).1]
          rw [hF]
          apply List.map_congr_left
          intro i hi
          simp only [firsts, List.mem_filter, List.mem_range] at hi
          have h2 := hi.2
          simp at h2
          rw [(hother _ (hno i hi.1 h2.1)).2]
        · simp [hdp]
      | some i0 =>
        obtain ⟨h1, h2, h3⟩ := fi_spec kd tg (tg p) p i0 hf
        have hmem : (i0, du kd tg (tg i0) p) ∈ marked kd tg p p := by
          simp only [marked, List.mem_map, firsts, List.mem_filter, List.mem_range]
          refine ⟨i0, ⟨h1, ?_⟩, rfl⟩
          simp [h2, h3, hf]
        have hidx : ∃ q, (marked kd tg p p).findIdx? (fun x => tg x.1 == tg p) = some q := by
          cases hq : (marked kd tg p p).findIdx? (fun x => tg x.1 == tg p) with
          | some q => exact ⟨q, rfl⟩
          | none =>
            have := List.findIdx?_eq_none_iff.1 hq _ hmem
            simp [h3] at this
        obtain ⟨q, hq⟩ := hidx
        unfold addM
        rw [hq]
        simp only
        rw [modify_unique tg hnd hq]
        have hfp : fi kd tg (tg p) (p + 1) = some i0 := fi_keep kd tg _ p i0 hf
        have hdp : du kd tg (tg p) (p + 1) = true := by simp [du, hk, hf]
        have hF : firsts kd tg (p + 1) p = firsts kd tg p p := by
          unfold firsts
          apply List.filter_congr
          intro i _
          by_cases e : tg i = tg p
          · rw [e, hfp, hf]
          · rw [(hother _ e).1]
        unfold marked
        rw [firsts_succ, if_neg (by rw [hfp]; simp; intro _; omega), List.append_nil, hF, List.map_map]
        apply List.map_congr_left
        intro i _
        show (if tg i = tg p then (i, true) else (i, du kd tg (tg i) p)) = (i, du kd tg (tg i) (p + 1))
        by_cases e : tg i = tg p
        · rw [if_pos e, e, hdp]
        · rw [if_neg e, (hother _ e).2]
end

theorem embI_false (sm : Nat → Bool) (kd : Nat → Nat) (n : Nat) (h : cntF sm n = 0) : embI sm kd n = emb kd n := by
  induction n with
  | zero => rfl
  | succ n ih =>
    simp only [cntF] at h
    have h1 : cntF sm n = 0 := by omega
    have h2 : sm n = false := by
      cases hs : sm n
      · rfl
      · rw [hs] at h; simp at h
    rw [emb_succ, ← ih h1]
    simp [embI, h2]

/-- The law's own count behind p fields. -/
def lawSt (kd tg : Nat → Nat) (mi : Nat → Option Nat) (n p : Nat) : Nat × Nat := foldM mi tg (marked kd tg n p)
theorem lawSt_zero (kd tg : Nat → Nat) (mi : Nat → Option Nat) (n : Nat) : lawSt kd tg mi n 0 = (0, 0) := rfl
theorem lawSt_hit (kd tg : Nat → Nat) (mi : Nat → Option Nat) (n p : Nat) (h1 : kd p ≠ 0) (h2 : fi kd tg (tg p) n = some p) (t : Nat) (h3 : mi (tg p) = some t) :
    lawSt kd tg mi n (p + 1) = ((lawSt kd tg mi n p).1 + (if du kd tg (tg p) n then 2 else 1), p) := by
  unfold lawSt marked
  rw [firsts_succ, if_pos ⟨h1, h2⟩, List.map_append]
  show foldM mi tg (_ ++ [(p, du kd tg (tg p) n)]) = _
  rw [foldM_snoc]
  simp [stepM, h3]
theorem lawSt_miss (kd tg : Nat → Nat) (mi : Nat → Option Nat) (n p : Nat) (h : kd p = 0 ∨ fi kd tg (tg p) n ≠ some p ∨ mi (tg p) = none) : lawSt kd tg mi n (p + 1) = lawSt kd tg mi n p := by
  unfold lawSt marked
  rw [firsts_succ]
  by_cases hc : kd p ≠ 0 ∧ fi kd tg (tg p) n = some p
  · rw [if_pos hc, List.map_append]
    have h3 : mi (tg p) = none := by
      rcases h with h | h | h
      · exact absurd h hc.1
      · exact absurd hc.2 h
      · exact h
    show foldM mi tg (_ ++ [(p, du kd tg (tg p) n)]) = _
    rw [foldM_snoc]
    simp [stepM, h3]
  · rw [if_neg hc, List.append_nil]
theorem lawSt_all (kd tg : Nat → Nat) (mi : Nat → Option Nat) (sm : Nat → Bool) (n : Nat) (h : cntF sm n = 0) : foldM mi tg (mergeM tg (embI sm kd n)) = lawSt kd tg mi n n := by
  rw [embI_false sm kd n h, merge_firsts]; rfl
theorem lawSt_le (kd tg : Nat → Nat) (mi : Nat → Option Nat) (n p : Nat) : (lawSt kd tg mi n p).1 ≤ p * 2 := by
  induction p with
  | zero => simp [lawSt_zero]
  | succ p ih =>
    by_cases hc : kd p ≠ 0 ∧ fi kd tg (tg p) n = some p ∧ ∃ t, mi (tg p) = some t
    · obtain ⟨h1, h2, t, h3⟩ := hc
      rw [lawSt_hit kd tg mi n p h1 h2 t h3]
      simp only
      split <;> omega
    · rw [lawSt_miss kd tg mi n p]
      · omega
      · by_cases h1 : kd p = 0
        · exact .inl h1
        · by_cases h2 : fi kd tg (tg p) n = some p
          · right; right
            cases hm : mi (tg p) with
            | none => rfl
            | some t => exact absurd ⟨h1, h2, t, hm⟩ hc
          · exact .inr (.inl h2)
/-- Where something was counted, the last counted field is a hit. -/
theorem lawSt_last (kd tg : Nat → Nat) (mi : Nat → Option Nat) (n p : Nat) (h : 0 < (lawSt kd tg mi n p).1) : ∃ t, mi (tg (lawSt kd tg mi n p).2) = some t ∧ (lawSt kd tg mi n p).2 < p ∧ fi kd tg (tg (lawSt kd tg mi n p).2) n = some (lawSt kd tg mi n p).2 := by
  induction p with
  | zero => simp [lawSt_zero] at h
  | succ p ih =>
    by_cases hc : kd p ≠ 0 ∧ fi kd tg (tg p) n = some p ∧ ∃ t, mi (tg p) = some t
    · obtain ⟨h1, h2, t, h3⟩ := hc
      rw [lawSt_hit kd tg mi n p h1 h2 t h3]
      exact ⟨t, h3, by simp, h2⟩
    · have e : lawSt kd tg mi n (p + 1) = lawSt kd tg mi n p := by
        apply lawSt_miss
        by_cases h1 : kd p = 0
        · exact .inl h1
        · by_cases h2 : fi kd tg (tg p) n = some p
          · right; right
            cases hm : mi (tg p) with
            | none => rfl
            | some t => exact absurd ⟨h1, h2, t, hm⟩ hc
          · exact .inr (.inl h2)
      rw [e] at h ⊢
      obtain ⟨t, h1, h2, h3⟩ := ih h
      exact ⟨t, h1, by omega, h3⟩
end Go.Proofs.Ybulkhuy
