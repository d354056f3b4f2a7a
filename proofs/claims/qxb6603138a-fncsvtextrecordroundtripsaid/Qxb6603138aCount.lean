import Derived.Test.Qxb6603138aSmall
namespace Go.Proofs.Qxb6603138a
open Go.RowKit

theorem special_calls (c : UInt8) (w : World) : Calls Try.prog 31 #[.int .u8 (c.toNat : Int)] w fun e w' => e = .returned (.bool (special c)) ∧ w' = w := by
  by_cases h1 : (c.toNat : Int) = 44
  · rw [special_of c (.inl h1)]
    have e1 : ((c.toNat : Int) == 44) = true := beq_iff_eq.2 h1
    clear h1
    go_enter Try.func31, Try.ntmps31
    go_wp2
    go_ret
    exact ⟨rfl, rfl⟩
  · have e1 : ((c.toNat : Int) == 44) = false := beq_eq_false_iff_ne.2 h1
    by_cases h2 : (c.toNat : Int) = 34
    · rw [special_of c (.inr (.inl h2))]
      have e2 : ((c.toNat : Int) == 34) = true := beq_iff_eq.2 h2
      clear h1 h2
      go_enter Try.func31, Try.ntmps31
      go_wp2
      go_ret
      exact ⟨rfl, rfl⟩
    · have e2 : ((c.toNat : Int) == 34) = false := beq_eq_false_iff_ne.2 h2
      by_cases h3 : (c.toNat : Int) = 13
      · rw [special_of c (.inr (.inr (.inl h3)))]
        have e3 : ((c.toNat : Int) == 13) = true := beq_iff_eq.2 h3
        clear h1 h2 h3
        go_enter Try.func31, Try.ntmps31
        go_wp2
        go_ret
        exact ⟨rfl, rfl⟩
      · have e3 : ((c.toNat : Int) == 13) = false := beq_eq_false_iff_ne.2 h3
        by_cases h4 : (c.toNat : Int) = 10
        · rw [special_of c (.inr (.inr (.inr h4)))]
          have e4 : ((c.toNat : Int) == 10) = true := beq_iff_eq.2 h4
          clear h1 h2 h3 h4
          go_enter Try.func31, Try.ntmps31
          go_wp2
          go_ret
          exact ⟨rfl, rfl⟩
        · rw [special_no c h1 h2 h3 h4]
          have e4 : ((c.toNat : Int) == 10) = false := beq_eq_false_iff_ne.2 h4
          clear h1 h2 h3 h4
          go_enter Try.func31, Try.ntmps31
          go_wp2
          go_ret
          exact ⟨rfl, rfl⟩

def cs (l : List UInt8) : Nat := (l.filter fun c => !special c).length
theorem cs_le (l : List UInt8) : cs l ≤ l.length := List.length_filter_le _ _
theorem cs_needs (l : List UInt8) : cs l = l.length ↔ needs l = false := by
  induction l with
  | nil => simp [cs, needs]
  | cons c r ih =>
    have hle := cs_le r
    unfold cs needs at *
    cases h : special c
    · simp [h, ih]
    · simp [h]; omega
theorem cs_drop (s : ByteArray) (g : Nat) (h : g < s.size) : cs ((sb s).drop g) = cs ((sb s).drop (g + 1)) + if special s[g] then 0 else 1 := by
  have e : (sb s).drop g = s[g] :: (sb s).drop (g + 1) := by
    rw [List.drop_eq_getElem_cons (by rw [sb_len]; exact h), sb_get' s g h]
    rfl
  rw [e]
  unfold cs
  cases hsp : special s[g] <;> simp [hsp]

set_option maxHeartbeats 1000000 in
set_option maxRecDepth 100000 in
theorem count_calls (s : ByteArray) (w : World) (hs : s.size ≤ 1048576) : Calls Try.prog 22 #[.string s] w fun e w' => e = .returned (.int .i64 (cs (sb s) : Nat)) ∧ w' = w := by
  go_enter Try.func22, Try.ntmps22
  go_wp2
  go_loopg [3, 4] s.size (fun g v i wx => g ≤ s.size ∧ i = .int .i64 (g : Nat) ∧ v = .int .i64 (cs ((sb s).drop g) : Nat) ∧ wx = w)
  case atStart => exact ⟨Nat.le_refl _, rfl, by rw [List.drop_of_length_le (by rw [sb_len]; exact Nat.le_refl _)]; rfl, rfl⟩
  case round =>
    obtain ⟨hg, rfl, rfl, rfl⟩ := hrel
    cases gk with
    | zero =>
      rw [List.drop_zero]
      have hlt : ¬ ((0 : Int) < ((0 : Nat) : Int)) := by omega
      go_wp2
      go_ret
      exact ⟨rfl, rfl⟩
    | succ g =>
      have hgs : g < s.size := by omega
      have h0 : (0 : Int) < ((g + 1 : Nat) : Int) := by omega
      have h0b : (0 : Int) < (g : Int) + 1 := by omega
      have hgs2 : (g : Int) < (s.size : Int) := by omega
      have HS := cs_drop s g hgs
      have hle := cs_le ((sb s).drop (g + 1))
      rw [List.length_drop, sb_len] at hle
      have HS2 : Hid (cs ((sb s).drop g) = cs ((sb s).drop (g + 1)) + if special s[g] then 0 else 1) := HS
      clear HS
      have hm : cs ((sb s).drop (g + 1)) ≤ 1048576 := by omega
      clear hle
      generalize cs ((sb s).drop (g + 1)) = m at *
      cases hsp : special s[g] with
      | true =>
        rw [hsp] at HS2
        go_wp2_with (go_at_call 31; refine (special_calls _ _).mono ?_; rintro e w' ⟨rfl, hw⟩; have hw2 := hw.symm; subst hw2)
        go_roundg g
        case measure => omega
        case rel => exact ⟨by omega, by go_num, by rw [HS2.out]; rfl, rfl⟩
      | false =>
        rw [hsp] at HS2
        go_wp2_with (go_at_call 31; refine (special_calls _ _).mono ?_; rintro e w' ⟨rfl, hw⟩; have hw2 := hw.symm; subst hw2)
        go_roundg g
        case measure => omega
        case rel => exact ⟨by omega, by go_num, by rw [HS2.out]; go_num, rfl⟩
end Go.Proofs.Qxb6603138a
