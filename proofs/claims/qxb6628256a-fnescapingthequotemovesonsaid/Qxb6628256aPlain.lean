/-
  THE PLAIN LAWS of the first quote that no backslash escapes: no Go in sight.
-/
namespace Go.Proofs.Qxb6628256a

/-- The place of the first quote (34) that no backslash (92) escapes. -/
def cq : List UInt8 → Option Nat
  | [] => none
  | [c] => if c = 34 then some 0 else none
  | c :: d :: r => if c = 92 then (cq r).map (· + 2) else if c = 34 then some 0 else (cq (d :: r)).map (· + 1)
/-- The text holds no such quote and ends in a backslash that escapes nothing. -/
def dang : List UInt8 → Bool
  | [] => false
  | [c] => c == 92
  | c :: d :: r => if c = 92 then dang r else if c = 34 then false else dang (d :: r)
/-- The same as Go's int. -/
def cqI (l : List UInt8) : Int := match cq l with | none => -1 | some k => k

theorem cq_esc (d : UInt8) (r : List UInt8) : cq (92 :: d :: r) = (cq r).map (· + 2) := by simp [cq]
theorem cq_esc' (r : List UInt8) : cq (92 :: r) = (cq (r.drop 1)).map (· + 2) := by
  cases r with
  | nil => simp [cq]
  | cons d r => simp [cq]
theorem cq_quote (r : List UInt8) : cq (34 :: r) = some 0 := by
  cases r <;> simp [cq]
theorem cq_other (c : UInt8) (r : List UInt8) (h1 : c ≠ 92) (h2 : c ≠ 34) : cq (c :: r) = (cq r).map (· + 1) := by
  cases r <;> simp [cq, h1, h2]
theorem dang_esc' (r : List UInt8) : dang (92 :: r) = (r == [] || dang (r.drop 1)) := by
  cases r with
  | nil => simp [dang]
  | cons d r => simp [dang]
theorem dang_quote (r : List UInt8) : dang (34 :: r) = false := by
  cases r <;> simp [dang]
theorem dang_other (c : UInt8) (r : List UInt8) (h1 : c ≠ 92) (h2 : c ≠ 34) : dang (c :: r) = dang r := by
  cases r <;> simp [dang, h1, h2]

/-- What the answer on a text is, from the place k on. -/
def cqFrom (l : List UInt8) (k : Nat) : Option Nat := (cq (l.drop k)).map (· + k)
theorem cqFrom_zero (l : List UInt8) : cqFrom l 0 = cq l := by simp [cqFrom]
theorem cqFrom_esc (l : List UInt8) (k : Nat) (hk : k < l.length) (h : l[k] = 92) : cqFrom l k = cqFrom l (k + 2) := by
  unfold cqFrom
  rw [List.drop_eq_getElem_cons hk, h, cq_esc', List.drop_drop, Option.map_map]
  congr 1
  funext x
  simp only [Function.comp]
  omega
theorem cqFrom_quote (l : List UInt8) (k : Nat) (hk : k < l.length) (h : l[k] = 34) : cqFrom l k = some k := by
  unfold cqFrom
  rw [List.drop_eq_getElem_cons hk, h, cq_quote]
  simp
theorem cqFrom_other (l : List UInt8) (k : Nat) (hk : k < l.length) (h1 : l[k] ≠ 92) (h2 : l[k] ≠ 34) : cqFrom l k = cqFrom l (k + 1) := by
  unfold cqFrom
  rw [List.drop_eq_getElem_cons hk, cq_other _ _ h1 h2, Option.map_map]
  congr 1
  funext x
  simp only [Function.comp]
  omega
theorem cqFrom_end (l : List UInt8) (k : Nat) (hk : l.length ≤ k) : cqFrom l k = none := by
  unfold cqFrom
  rw [List.drop_of_length_le hk]
  rfl

/-- THE JOIN AT A CUT, on a text with k bytes and fuel n. -/
theorem cq_append : ∀ (n : Nat) (a b : List UInt8), a.length ≤ n →
    cq (a ++ b) = match cq a with
      | some k => some k
      | none => if dang a then (cq (b.drop 1)).map (· + (a.length + 1)) else (cq b).map (· + a.length)
  | _, [], b, _ => by simp [cq, dang]
  | 0, _ :: _, _, h => by simp at h
  | n + 1, c :: a, b, h => by
    simp only [List.length_cons] at h
    by_cases h1 : c = 92
    · subst h1
      rw [List.cons_append, cq_esc', cq_esc', dang_esc']
      cases a with
      | nil => simp [cq]
      | cons d a =>
        have ih := cq_append n a b (by simp at h; omega)
        simp only [List.cons_append, List.drop_succ_cons, List.drop_zero, List.length_cons]
        rw [ih]
        cases cq a with
        | some k => simp
        | none =>
          simp only [Option.map_none]
          cases dang a <;> simp <;> congr 1 <;> funext x <;> simp only [Function.comp] <;> omega
    · by_cases h2 : c = 34
      · subst h2
        rw [List.cons_append, cq_quote, cq_quote]
      · have ih := cq_append n a b (by omega)
        rw [List.cons_append, cq_other c _ h1 h2, cq_other c _ h1 h2, dang_other c _ h1 h2, ih]
        cases cq a with
        | some k => simp
        | none =>
          simp only [Option.map_none]
          cases dang a <;> simp <;> congr 1 <;> funext x <;> simp only [Function.comp] <;> omega

theorem cq_join (a b : List UInt8) :
    cq (a ++ b) = match cq a with
      | some k => some k
      | none => if dang a then (cq (b.drop 1)).map (· + (a.length + 1)) else (cq b).map (· + a.length) := cq_append a.length a b (Nat.le_refl _)

/-- The answer is the place of a quote; ahead of it lies no answer, and nothing dangles. -/
theorem cq_some : ∀ (n : Nat) (l : List UInt8) (k : Nat), l.length ≤ n → cq l = some k → ∃ a r, l = a ++ 34 :: r ∧ a.length = k ∧ cq a = none ∧ dang a = false
  | _, [], _, _, h => by simp [cq] at h
  | 0, _ :: _, _, h, _ => by simp at h
  | n + 1, c :: l, k, hn, h => by
    simp only [List.length_cons] at hn
    by_cases h1 : c = 92
    · subst h1
      rw [cq_esc'] at h
      cases l with
      | nil => simp [cq] at h
      | cons d l =>
        simp only [List.drop_succ_cons, List.drop_zero, Option.map_eq_some_iff] at h
        obtain ⟨j, hj, rfl⟩ := h
        obtain ⟨a, r, rfl, ha, hq, hd⟩ := cq_some n l j (by simp at hn; omega) hj
        refine ⟨92 :: d :: a, r, rfl, by simp [ha], ?_, ?_⟩
        · rw [cq_esc', List.drop_succ_cons, List.drop_zero, hq]; rfl
        · rw [dang_esc', List.drop_succ_cons, List.drop_zero, hd]; rfl
    · by_cases h2 : c = 34
      · subst h2
        rw [cq_quote] at h
        cases h
        exact ⟨[], l, rfl, rfl, rfl, rfl⟩
      · rw [cq_other c _ h1 h2, Option.map_eq_some_iff] at h
        obtain ⟨j, hj, rfl⟩ := h
        obtain ⟨a, r, rfl, ha, hq, hd⟩ := cq_some n l j (by omega) hj
        refine ⟨c :: a, r, rfl, by simp [ha], ?_, ?_⟩
        · rw [cq_other c _ h1 h2, hq]; rfl
        · rw [dang_other c _ h1 h2, hd]
theorem cq_found {l : List UInt8} {k : Nat} (h : cq l = some k) : ∃ a r, l = a ++ 34 :: r ∧ a.length = k ∧ cq a = none ∧ dang a = false := cq_some l.length l k (Nat.le_refl _) h
end Go.Proofs.Qxb6628256a
