import Derived.Test.Qxb6603138aText2
namespace Go.Proofs.Qxb6603138a

/-! ### The record, plainly: the fields written, one behind the other -/
def tl (fs : List (List UInt8)) : List UInt8 := fs.flatMap fun f => 44 :: field f
def line : List (List UInt8) → List UInt8
  | [] => []
  | f :: r => field f ++ tl r
theorem tl_snoc (fs : List (List UInt8)) (f : List UInt8) : tl (fs ++ [f]) = tl fs ++ (44 :: field f) := by simp [tl]
theorem tl_append (a b : List (List UInt8)) : tl (a ++ b) = tl a ++ tl b := by simp [tl]
theorem line_snoc (fs : List (List UInt8)) (f : List UInt8) : wrote (line fs) (decide (0 < fs.length)) f = line (fs ++ [f]) := by
  cases fs with
  | nil => simp [wrote, line, sep, tl]
  | cons g r => simp [wrote, line, sep, tl_snoc]
theorem line_take (fs : List (List UInt8)) (k : Nat) (h : k < fs.length) : wrote (line (fs.take k)) (decide (0 < k)) (fs.getD k []) = line (fs.take (k + 1)) := by
  have := line_snoc (fs.take k) (fs.getD k [])
  rw [List.length_take, Nat.min_eq_left (by omega)] at this
  rw [this, List.take_succ_eq_append_getElem h]
  simp [List.getD_eq_getElem?_getD, h]
/-- Where field k begins. -/
def pos (fs : List (List UInt8)) : Nat → Nat
  | 0 => 0
  | k + 1 => (line (fs.take (k + 1))).length + 1
theorem line_split (fs : List (List UInt8)) (k : Nat) (h : k < fs.length) : ∃ pre, pre.length = pos fs k ∧ line fs = pre ++ (field (fs.getD k []) ++ tl (fs.drop (k + 1))) := by
  cases k with
  | zero =>
    refine ⟨[], rfl, ?_⟩
    cases fs with
    | nil => simp at h
    | cons f r => rfl
  | succ k =>
    refine ⟨line (fs.take (k + 1)) ++ [44], by rw [List.length_append]; rfl, ?_⟩
    cases fs with
    | nil => simp at h
    | cons f r =>
      have hk : k < r.length := by simpa using h
      have e : r = r.take k ++ (r[k] :: r.drop (k + 1)) := by
        rw [← List.drop_eq_getElem_cons hk, List.take_append_drop]
      have e2 : tl r = tl (r.take k) ++ ((44 :: field r[k]) ++ tl (r.drop (k + 1))) := by
        have e3 : tl r = tl (r.take k ++ (r[k] :: r.drop (k + 1))) := by rw [← e]
        rw [e3, tl_append]
        rfl
      simp only [List.take_succ_cons, line, e2, List.drop_succ_cons]
      simp [List.getD_eq_getElem?_getD, hk]
theorem pos_next (fs : List (List UInt8)) (k : Nat) (h : k < fs.length) : pos fs (k + 1) = pos fs k + (field (fs.getD k [])).length + 1 := by
  have h1 : line (fs.take (k + 1)) = wrote (line (fs.take k)) (decide (0 < k)) (fs.getD k []) := (line_take fs k h).symm
  show (line (fs.take (k + 1))).length + 1 = _
  rw [h1]
  cases k with
  | zero => simp [wrote, sep, line, pos]
  | succ k => simp [wrote, sep, pos]; omega
theorem tl_head (fs : List (List UInt8)) : (tl fs = [] ∧ fs = []) ∨ ∃ r, tl fs = 44 :: r ∧ fs ≠ [] := by
  cases fs with
  | nil => exact .inl ⟨rfl, rfl⟩
  | cons f r => exact .inr ⟨field f ++ tl r, rfl, by simp⟩
end Go.Proofs.Qxb6603138a
