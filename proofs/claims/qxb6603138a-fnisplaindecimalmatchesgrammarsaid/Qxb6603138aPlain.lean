import Derived.Test.Qxb6603138aRows
namespace Go.Proofs.Qxb6603138a

/-! ### The plain law: one scan, and the split at the first point, answer alike -/
def dig (c : UInt8) : Bool := decide (48 ≤ c.toNat) && decide (c.toNat ≤ 57)
def scan : List UInt8 → Nat → Bool → Bool
  | [], d, _ => decide (0 < d)
  | c :: r, d, p => if dig c then scan r (d + 1) p else if c.toNat = 46 ∧ p = false ∧ 0 < d then scan r 0 true else false
def allDig (l : List UInt8) : Bool := decide (0 < l.length) && l.all dig

theorem dig46 (c : UInt8) (h : c.toNat = 46) : dig c = false := by simp [dig, h]
theorem scan_true (l : List UInt8) : ∀ d, scan l d true = (decide (0 < d + l.length) && l.all dig) := by
  induction l with
  | nil => intro d; simp [scan]
  | cons c r ih =>
    intro d
    cases h : dig c
    · simp [scan, h]
    · rw [scan, if_pos h, ih]
      simp [h, show d + 1 + r.length = d + (r.length + 1) by omega]
theorem scan_none (l : List UInt8) : ∀ d, (∀ c ∈ l, c.toNat ≠ 46) → scan l d false = (decide (0 < d + l.length) && l.all dig) := by
  induction l with
  | nil => intro d _; simp [scan]
  | cons c r ih =>
    intro d hn
    cases h : dig c
    · have := hn c (by simp)
      simp [scan, h, this]
    · rw [scan, if_pos h, ih _ (fun x hx => hn x (by simp [hx]))]
      simp [h, show d + 1 + r.length = d + (r.length + 1) by omega]
theorem scan_at (l : List UInt8) : ∀ (d k : Nat), (∀ c ∈ l.take k, c.toNat ≠ 46) → (∃ c, l[k]? = some c ∧ c.toNat = 46) →
    scan l d false = ((decide (0 < d + k) && (l.take k).all dig) && allDig (l.drop (k + 1))) := by
  induction l with
  | nil => intro d k _ h; obtain ⟨c, h, _⟩ := h; simp at h
  | cons c r ih =>
    intro d k hn hk
    cases k with
    | zero =>
      obtain ⟨x, hx, h46⟩ := hk
      simp only [List.getElem?_cons_zero, Option.some.injEq] at hx
      subst hx
      have hd := dig46 c h46
      by_cases h0 : 0 < d
      · simp [scan, hd, h46, h0, scan_true, allDig]
      · simp [scan, hd, h0]
    | succ k =>
      have hc : c.toNat ≠ 46 := hn c (by simp)
      cases h : dig c
      · simp [scan, h, hc]
      · rw [scan, if_pos h, ih (d + 1) k (fun x hx => hn x (by simp [hx])) (by simpa using hk)]
        simp [h, show d + 1 + k = d + (k + 1) by omega]
theorem scan0_none (l : List UInt8) (h : ∀ c ∈ l, c.toNat ≠ 46) : scan l 0 false = allDig l := by
  rw [scan_none l 0 h]; simp [allDig]
theorem scan0_at (l : List UInt8) (k : Nat) (hk : k < l.length) (h : ∀ c ∈ l.take k, c.toNat ≠ 46) (h46 : l[k].toNat = 46) :
    scan l 0 false = (allDig (l.take k) && allDig (l.drop (k + 1))) := by
  rw [scan_at l 0 k h ⟨l[k], by simp, h46⟩]
  simp [allDig, show min k l.length = k by omega]
/-- A leading minus struck. -/
def strip : List UInt8 → List UInt8
  | [] => []
  | c :: r => if c.toNat = 45 then r else c :: r
end Go.Proofs.Qxb6603138a
