/-
  THE PLAIN LAWS of a header's rendering: no Go in sight.
-/
import Derived.Lib.Join
namespace Go.Proofs.Qxb6628157a

def opts (os : List (List UInt8)) : List UInt8 := (os.map fun o => [91, 44] ++ o).flatten
/-- What (Header).String writes: the columns joined by commas, an opening bracket and a comma ahead of each optional column, a closing bracket behind for each of them. -/
def render (cs os : List (List UInt8)) : List UInt8 := Lib.join cs [44] ++ opts os ++ List.replicate os.length 93

theorem opts_append (a b : List (List UInt8)) : opts (a ++ b) = opts a ++ opts b := by simp [opts]
theorem opts_cons (a : List UInt8) (b : List (List UInt8)) : opts (a :: b) = [91, 44] ++ a ++ opts b := by simp [opts]
theorem opts_nil : opts [] = [] := rfl

theorem join_append (sep : List UInt8) : ∀ (a b : List (List UInt8)), a ≠ [] → b ≠ [] → Lib.join (a ++ b) sep = Lib.join a sep ++ sep ++ Lib.join b sep
  | [], _, h, _ => (h rfl).elim
  | [x], b, _, hb => by
    obtain ⟨y, r, rfl⟩ : ∃ y r, b = y :: r := List.exists_cons_of_ne_nil hb
    simp [Lib.join, List.intercalate, List.intersperse]
  | x :: y :: a, b, _, hb => by
    have ih := join_append sep (y :: a) b (by simp) hb
    simp only [Lib.join, List.intercalate, List.cons_append, List.intersperse_cons_cons, List.flatten_cons] at ih ⊢
    rw [ih]
    simp

theorem join_nil' (sep : List UInt8) : Lib.join [] sep = [] := rfl
theorem join_one' (x sep : List UInt8) : Lib.join [x] sep = x := by simp [Lib.join, List.intercalate]

theorem render_parts (cs os : List (List UInt8)) : render cs os = render cs [] ++ render [] os := by
  simp [render, opts_nil, join_nil']
theorem render_one (x : List UInt8) : render [x] [] = x := by simp [render, opts_nil, join_one']
theorem render_cut (cs os : List (List UInt8)) (j : Nat) (h1 : 1 ≤ j) (h2 : j < cs.length) :
    render cs os = render (cs.take j) [] ++ [44] ++ render (cs.drop j) os := by
  have e : Lib.join cs [44] = Lib.join (cs.take j) [44] ++ [44] ++ Lib.join (cs.drop j) [44] := by
    rw [← join_append [44] _ _ (List.ne_nil_of_length_pos (by rw [List.length_take]; omega)) (List.ne_nil_of_length_pos (by rw [List.length_drop]; omega)), List.take_append_drop]
  simp [render, opts_nil, e]

/-! ### the optional part nests -/
def keepL (cs os : List (List UInt8)) (k : Nat) : List UInt8 := Lib.join cs [44] ++ opts (os.take k)
theorem head_eq (cs os : List (List UInt8)) (k : Nat) (hk : k ≤ os.length) : render cs (os.take k) = keepL cs os k ++ List.replicate k 93 := by
  simp [render, keepL, Nat.min_eq_left hk]
theorem whole_eq (cs os : List (List UInt8)) (k : Nat) (hk : k ≤ os.length) : render cs os = keepL cs os k ++ render [] (os.drop k) ++ List.replicate k 93 := by
  have e : opts os = opts (os.take k) ++ opts (os.drop k) := by rw [← opts_append, List.take_append_drop]
  have e2 : List.replicate os.length (93 : UInt8) = List.replicate (os.length - k) 93 ++ List.replicate k 93 := by
    rw [List.replicate_append_replicate]
    congr 1
    omega
  simp [render, keepL, e, e2, join_nil']
theorem all_eq (o : List UInt8) (os : List (List UInt8)) : render [] (o :: os) = [91, 44] ++ o ++ render [] os ++ [93] := by
  simp [render, opts_cons, join_nil', List.replicate_succ']

/-! ### sizes -/
theorem opts_length (os : List (List UInt8)) : (opts os).length = 2 * os.length + (os.map List.length).sum := by
  induction os with
  | nil => rfl
  | cons o os ih => rw [opts_cons]; simp [ih]; omega
theorem join_length (cs : List (List UInt8)) : (Lib.join cs [44]).length ≤ cs.length + (cs.map List.length).sum := by
  induction cs with
  | nil => simp [join_nil']
  | cons c cs ih =>
    cases cs with
    | nil => simp [join_one']
    | cons d r =>
      have := join_append [44] [c] (d :: r) (by simp) (by simp)
      simp only [List.cons_append, List.nil_append] at this
      rw [this, join_one']
      simp at ih ⊢
      omega
theorem render_length (cs os : List (List UInt8)) : (render cs os).length ≤ cs.length + (cs.map List.length).sum + 3 * os.length + (os.map List.length).sum := by
  have h1 := join_length cs
  have h2 := opts_length os
  simp [render]
  omega
end Go.Proofs.Qxb6628157a
