/-
  THE PLAIN LAWS of the span of the texts that begin with a given text: no Go in sight but the order of bytes as the model has it.
-/
import GoSem.Op.String
namespace Go.Proofs.Qxb6628451a
open Go.Op (bytesLess)

/-- The first text above all that begin with p: its last byte below 255 raised by one, what follows cut off; empty where there is none. -/
def pend : List UInt8 → List UInt8
  | [] => []
  | c :: r => if pend r = [] then (if c = 255 then [] else [c + 1]) else c :: pend r
def le (a b : List UInt8) : Bool := bytesLess a b || a == b
def inSpan (p k : List UInt8) : Bool := le p k && (pend p == [] || bytesLess k (pend p))

theorem less_nil (a : List UInt8) : bytesLess a [] = false := by cases a <;> rfl
theorem nil_less (b : UInt8) (y : List UInt8) : bytesLess [] (b :: y) = true := rfl
theorem cons_less (a b : UInt8) (x y : List UInt8) : bytesLess (a :: x) (b :: y) = (decide (a < b) || (a == b && bytesLess x y)) := rfl
theorem nil_le (b : List UInt8) : le [] b = true := by cases b <;> rfl
theorem cons_le (a b : UInt8) (x y : List UInt8) : le (a :: x) (b :: y) = (decide (a < b) || (a == b && le x y)) := by
  unfold le
  rw [cons_less, List.cons_beq_cons]
  cases decide (a < b) <;> cases a == b <;> simp

theorem lt_irrefl8 (a : UInt8) : ¬ a < a := by rw [UInt8.lt_iff_toNat_lt]; omega

theorem total : ∀ (a b : List UInt8), bytesLess a b = false → le b a = true
  | a, [], _ => nil_le a
  | [], _ :: _, h => by simp [nil_less] at h
  | a :: x, b :: y, h => by
    rw [cons_less] at h
    rw [cons_le]
    simp only [Bool.or_eq_false_iff, Bool.and_eq_false_iff, decide_eq_false_iff_not, beq_eq_false_iff_ne] at h
    obtain ⟨h1, h2⟩ := h
    by_cases e : b = a
    · subst e
      rcases h2 with h2 | h2
      · exact (h2 rfl).elim
      · simp [total x y h2]
    · have : b < a := by
        rw [UInt8.lt_iff_toNat_lt] at h1 ⊢
        have : b.toNat ≠ a.toNat := fun h => e (UInt8.toNat_inj.1 h)
        omega
      simp [this]

theorem raised (c d : UInt8) (h : c ≠ 255) : d < c + 1 ↔ ¬ c < d := by
  have hc : c.toNat ≠ 255 := fun e => h (UInt8.toNat_inj.1 (by rw [e]; rfl))
  have h2 := c.toNat_lt
  rw [UInt8.lt_iff_toNat_lt, UInt8.lt_iff_toNat_lt, UInt8.toNat_add, show (1 : UInt8).toNat = 1 from rfl, Nat.mod_eq_of_lt (by omega)]
  omega

/-- THE SPAN HOLDS EXACTLY THE PREFIXED. -/
theorem span_law : ∀ (p k : List UInt8), inSpan p k = p.isPrefixOf k
  | [], k => by simp [inSpan, nil_le, pend]
  | c :: r, [] => by
    have : le (c :: r) [] = false := by simp [le, less_nil]
    simp [inSpan, this]
  | c :: r, d :: t => by
    have ih := span_law r t
    unfold inSpan at ih ⊢
    rw [cons_le, List.isPrefixOf_cons_cons, ← ih]
    by_cases hr : pend r = []
    · by_cases hc : c = 255
      · subst hc
        have h255 : ¬ (255 : UInt8) < d := by
          rw [UInt8.lt_iff_toNat_lt]
          have := d.toNat_lt
          show ¬ 255 < _
          omega
        simp [pend, hr, h255]
      · have e : pend (c :: r) = [c + 1] := by simp [pend, hr, hc]
        rw [e, cons_less, less_nil]
        by_cases h1 : c < d
        · have h2 : ¬ d < c + 1 := fun h => (raised c d hc).1 h h1
          have h3 : ¬ c = d := fun h => lt_irrefl8 d (h ▸ h1)
          simp [h1, h2, h3]
        · have h2 : d < c + 1 := (raised c d hc).2 h1
          simp [h1, h2, hr]
    · have e : pend (c :: r) = c :: pend r := by simp [pend, hr]
      rw [e, cons_less]
      by_cases h1 : c < d
      · have h3 : ¬ c = d := fun h => lt_irrefl8 d (h ▸ h1)
        have h4 : ¬ d < c := by rw [UInt8.lt_iff_toNat_lt] at h1 ⊢; omega
        have h5 : (d == c) = false := beq_eq_false_iff_ne.2 fun h => h3 h.symm
        have h6 : (c == d) = false := beq_eq_false_iff_ne.2 h3
        rw [decide_eq_true h1, decide_eq_false h4, h5, h6]
        rfl
      · have hb : (pend r == []) = false := beq_eq_false_iff_ne.2 hr
        have hb2 : (c :: pend r == []) = false := rfl
        rw [hb, hb2, decide_eq_false h1]
        by_cases h3 : c = d
        · subst h3
          rw [beq_self_eq_true, decide_eq_false h1]
          rfl
        · rw [beq_eq_false_iff_ne.2 h3]
          rfl

theorem pend_append : ∀ (p s : List UInt8), pend (p ++ s) = if pend s = [] then pend p else p ++ pend s
  | [], s => by
    by_cases h : pend s = []
    · simp [h, pend]
    · simp [h]
  | c :: p, s => by
    have ih := pend_append p s
    by_cases h : pend s = []
    · rw [if_pos h] at ih ⊢
      simp only [List.cons_append, pend, ih]
    · rw [if_neg h] at ih ⊢
      simp [pend, ih, h]

theorem le_refl (a : List UInt8) : le a a = true := by simp [le]
theorem le_of_less {a b : List UInt8} (h : bytesLess a b = true) : le a b = true := by simp [le, h]

/-- Where p begins q, the span of q lies in the span of p. -/
theorem nest {p q : List UInt8} (h : p.isPrefixOf q = true) : le p q = true ∧ (pend p = [] ∨ (pend q ≠ [] ∧ le (pend q) (pend p) = true)) := by
  have h0 := h
  rw [← span_law] at h0
  simp only [inSpan, Bool.and_eq_true] at h0
  refine ⟨h0.1, ?_⟩
  by_cases hp : pend p = []
  · exact .inl hp
  · right
    obtain ⟨s, rfl⟩ := List.isPrefixOf_iff_prefix.1 h
    rw [pend_append]
    by_cases hs : pend s = []
    · rw [if_pos hs]
      exact ⟨hp, le_refl _⟩
    · rw [if_neg hs]
      refine ⟨by simp [hs], ?_⟩
      have h1 := span_law p (p ++ pend s)
      rw [List.isPrefixOf_iff_prefix.2 (List.prefix_append _ _)] at h1
      simp only [inSpan, Bool.and_eq_true, Bool.or_eq_true, beq_iff_eq] at h1
      exact le_of_less (h1.2.resolve_left hp)
/-- Where p does not begin q and lies at or below it, the span of p has an end at or below q. -/
theorem apart {p q : List UInt8} (h : p.isPrefixOf q = false) (hl : le p q = true) : pend p ≠ [] ∧ le (pend p) q = true := by
  rw [← span_law] at h
  simp only [inSpan, hl, Bool.true_and, Bool.or_eq_false_iff, beq_eq_false_iff_ne] at h
  exact ⟨h.1, total _ _ h.2⟩
end Go.Proofs.Qxb6628451a
