import Derived.Test.Qxb6603138aCsv
namespace Go.Proofs.Qxb6603138a
open Go.RowKit

/-! ### Which fields are quoted, and how -/
def special (c : UInt8) : Bool := c.toNat == 44 || c.toNat == 34 || c.toNat == 13 || c.toNat == 10
def needs (l : List UInt8) : Bool := l.any special
def dbl1 (c : UInt8) : List UInt8 := if c.toNat = 34 then [34, c] else [c]
def dbl (l : List UInt8) : List UInt8 := l.flatMap dbl1
def field (l : List UInt8) : List UInt8 := if needs l then [34] ++ dbl l ++ [34] else l
theorem dbl1_len (c : UInt8) : 1 ≤ (dbl1 c).length ∧ (dbl1 c).length ≤ 2 := by unfold dbl1; split <;> simp
theorem dbl_len (l : List UInt8) : l.length ≤ (dbl l).length ∧ (dbl l).length ≤ 2 * l.length := by
  induction l with
  | nil => simp [dbl]
  | cons o l ih =>
    have h := dbl1_len o
    have e : dbl (o :: l) = dbl1 o ++ dbl l := by simp [dbl]
    rw [e, List.length_append, List.length_cons]
    omega
theorem dbl_append (a b : List UInt8) : dbl (a ++ b) = dbl a ++ dbl b := by simp [dbl]
theorem dbl_take (s : ByteArray) (k : Nat) (h : k < s.size) : dbl ((sb s).take (k + 1)) = dbl ((sb s).take k) ++ dbl1 s[k] := by
  rw [sb_take s k h, dbl_append]
  simp [dbl]
theorem special_of (c : UInt8) (h : (c.toNat : Int) = 44 ∨ (c.toNat : Int) = 34 ∨ (c.toNat : Int) = 13 ∨ (c.toNat : Int) = 10) : special c = true := by
  unfold special
  simp only [Bool.or_eq_true, beq_iff_eq]
  omega
theorem special_no (c : UInt8) (h1 : ¬ (c.toNat : Int) = 44) (h2 : ¬ (c.toNat : Int) = 34) (h3 : ¬ (c.toNat : Int) = 13) (h4 : ¬ (c.toNat : Int) = 10) : special c = false := by
  unfold special
  simp only [Bool.or_eq_false_iff, beq_eq_false_iff_ne]
  omega
theorem needs_hit (s : ByteArray) (k : Nat) (h : k < s.size) (hs : special s[k] = true) : needs (sb s) = true := by
  unfold needs
  rw [List.any_eq_true]
  exact ⟨s[k], List.mem_of_getElem? (sb_get s k h), hs⟩

set_option maxHeartbeats 1000000 in
set_option maxRecDepth 100000 in
theorem needs_calls (s : ByteArray) (w : World) (hs : s.size ≤ 1048576) : Calls Try.prog 29 #[.string s] w fun e w' => e = .returned (.bool (needs (sb s))) ∧ w' = w := by
  go_enter Try.func29, Try.ntmps29
  go_wp2
  go_loopg [3] s.size (fun g i wx => ∃ k : Nat, k + g = s.size ∧ i = .int .i64 k ∧ Hid (needs ((sb s).take k) = false) ∧ wx = w)
  case atStart => exact ⟨0, by omega, rfl, rfl, rfl⟩
  case round =>
    obtain ⟨k, hk, rfl, HN, rfl⟩ := hrel
    cases gk with
    | zero =>
      obtain rfl : k = s.size := by omega
      have hlt : ¬ ((s.size : Int) < (s.size : Int)) := by omega
      have hd : Hid (needs (sb s) = false) := by
        have := HN.out
        rw [sb_all] at this
        exact this
      go_wp2
      go_ret
      exact ⟨by rw [hd.out]; rfl, rfl⟩
    | succ g =>
      have hlt : (k : Int) < (s.size : Int) := by omega
      have hks : k < s.size := by omega
      by_cases h1 : (s[k].toNat : Int) = 44
      · have hfin : Hid (needs (sb s) = true) := needs_hit s k hks (special_of _ (.inl h1))
        have e1 : ((s[k].toNat : Int) == 44) = true := beq_iff_eq.2 h1
        clear h1
        go_wp2
        go_ret
        exact ⟨by rw [hfin.out]; rfl, rfl⟩
      · have e1 : ((s[k].toNat : Int) == 44) = false := beq_eq_false_iff_ne.2 h1
        by_cases h2 : (s[k].toNat : Int) = 34
        · have hfin : Hid (needs (sb s) = true) := needs_hit s k hks (special_of _ (.inr (.inl h2)))
          have e2 : ((s[k].toNat : Int) == 34) = true := beq_iff_eq.2 h2
          clear h1 h2
          go_wp2
          go_ret
          exact ⟨by rw [hfin.out]; rfl, rfl⟩
        · have e2 : ((s[k].toNat : Int) == 34) = false := beq_eq_false_iff_ne.2 h2
          by_cases h3 : (s[k].toNat : Int) = 13
          · have hfin : Hid (needs (sb s) = true) := needs_hit s k hks (special_of _ (.inr (.inr (.inl h3))))
            have e3 : ((s[k].toNat : Int) == 13) = true := beq_iff_eq.2 h3
            clear h1 h2 h3
            go_wp2
            go_ret
            exact ⟨by rw [hfin.out]; rfl, rfl⟩
          · have e3 : ((s[k].toNat : Int) == 13) = false := beq_eq_false_iff_ne.2 h3
            by_cases h4 : (s[k].toNat : Int) = 10
            · have hfin : Hid (needs (sb s) = true) := needs_hit s k hks (special_of _ (.inr (.inr (.inr h4))))
              have e4 : ((s[k].toNat : Int) == 10) = true := beq_iff_eq.2 h4
              clear h1 h2 h3 h4
              go_wp2
              go_ret
              exact ⟨by rw [hfin.out]; rfl, rfl⟩
            · have e4 : ((s[k].toNat : Int) == 10) = false := beq_eq_false_iff_ne.2 h4
              have HN' : Hid (needs ((sb s).take (k + 1)) = false) := by
                show needs _ = false
                have := HN.out
                unfold needs at this ⊢
                rw [sb_take s k hks, List.any_append, this]
                simp [special_no _ h1 h2 h3 h4]
              clear h1 h2 h3 h4
              go_wp2
              go_roundg g
              case measure => omega
              case rel => exact ⟨k + 1, by omega, by go_num, HN', rfl⟩

/-! ### A field begun -/
def sep (il : Bool) : List UInt8 := if il then [44] else []
theorem csv_flag {w w1 : World} {base D : Nat} {v0 v : Value} {il : Bool} {l : List UInt8} (h : Csv w v0 w1 base D v il l) (hbD : base ≤ D) : Csv w v0 (w1.setCell ⟨D, 1, none⟩ (.bool true)) base D v true l :=
  ⟨heap_setCell_same w1 D 1 _ 39 (.bool true) h.at_, ownsRow_setCell_other (a := ⟨D, 1, none⟩) h.owns (h.at_.apart h.owns) _, h.below.setCell hbD _, fun k hk hD hv => by
    rw [heap_setCell_other w1 ⟨D, 1, none⟩ k _ hD]; exact h.keep k hk hD hv⟩
set_option maxHeartbeats 1000000 in
set_option maxRecDepth 100000 in
theorem field_calls (D base : Nat) (v : Value) (l : List UInt8) (il : Bool) (w : World) (h : CsvAt w D v il) (hown : Owns w base v l) (hbD : base ≤ D) (hbase : base ≤ w.heap.size) (hl : l.length ≤ 16777216) :
    Calls Try.prog 30 #[.pointer (some ⟨D, 0, none⟩)] w fun x w' => x = .returned (.tuple #[]) ∧ ∃ v', Csv w v w' base D v' true (l ++ sep il) ∧ Lies w v v' := by
  obtain ⟨i0, hi, hz0, hz1, hz2⟩ := info_parts info5
  obtain ⟨a, cap, rfl, hc, hm, _⟩ := hown.form
  obtain ⟨c0, c1⟩ := h.cells
  have hDl := h.lt
  cases il with
  | false =>
    have hf := h.free 1
    have HC : Hid (Csv w (.slice a l.length cap) (w.setCell ⟨D, 1, none⟩ (.bool true)) base D (.slice a l.length cap) true (l ++ sep false)) := by
      show Csv _ _ _ _ _ _ _ _
      rw [show l ++ sep false = l by simp [sep]]
      exact csv_flag ⟨h, hown, Below.refl _ _, fun _ _ _ _ => rfl⟩ hbD
    clear hown h
    go_enter Try.func30, Try.ntmps30
    go_wp2
    go_end0
    exact ⟨rfl, _, HC.out, Lies.refl _ _⟩
  | true =>
    have hown0 : w.ownsRow base 5 1 (.slice a l.length cap) l.length (Lib.byteCells l) := hown
    go_enter Try.func30, Try.ntmps30
    go_wp2_with (at_builtin; refine wpList_append_own_at _ rfl (.tmp 10) (.tmp 11) 24 rfl base 5 i0 (.int .u8 0) 1 1 Try.underlying24 hi hz0 hz1 hz2 rfl (by decide) (.slice a l.length cap) l.length (Lib.byteCells l) rfl (hown0.alloc _) ⟨w.heap.size, 0, none⟩ 1 1 [.int .u8 44] rfl rfl (one_new _ _ _) (byteCells_one [44]) (by unfold maxLen; omega) (by omega) (by simp; omega) ?_; intro v' w1 hown' hgrow _ hat; have HLi : Hid (Lies w (.slice a l.length cap) v') := lies_at (by simp) hat; clear hat; obtain ⟨⟨a', n', c', hv'⟩, cc0, hf0, HR⟩ := csv_after (r := [44]) h hown rfl (fun k hk => Below.heap_alloc _ _ _ hk) ((Below.refl base w).alloc hbase _) (by simp; omega) hbD hown' hgrow; subst hv'; have cc1 := HR.out.at_.cells.2; have cf1 := HR.out.at_.free 1; clear hown' hgrow)
    have HC : Hid (Csv w (.slice a l.length cap) ((w1.setCell ⟨D, 0, none⟩ (.slice a' n' c')).setCell ⟨D, 1, none⟩ (.bool true)) base D (.slice a' n' c') true (l ++ sep true)) := csv_flag HR.out hbD
    go_end0
    exact ⟨rfl, _, HC.out, HLi.out⟩
end Go.Proofs.Qxb6603138a
