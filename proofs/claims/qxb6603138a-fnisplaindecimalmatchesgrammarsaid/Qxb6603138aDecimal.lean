import Derived.Test.Qxb6603138aPlain
import Derived.WalkSpells
import Derived.Deep.LoopGhost
import Derived.Deep.Cut
import Derived.Deep.CutRange
import Derived.Deep.DeepCutAuto
import Derived.Lib.Strings
import Derived.Lib.IndexBytes
import Derived.WalkKit
import Derived.ProofKit
namespace Go.Proofs.Qxb6603138a
open Go.RowKit

def sl (s : ByteArray) : List UInt8 := s.data.toList
theorem sl_len (s : ByteArray) : (sl s).length = s.size := (Lib.size_eq s).symm
theorem sl_get (s : ByteArray) (k : Nat) (h : k < s.size) : (sl s)[k]? = some s[k] := Lib.data_getElem? s k h
theorem sl_get' (s : ByteArray) (k : Nat) (h : k < s.size) (h' : k < (sl s).length) : (sl s)[k] = s[k] := by
  have := sl_get s k h
  rw [List.getElem?_eq_getElem h'] at this
  exact Option.some.inj this
theorem sl_take (s : ByteArray) (k : Nat) (h : k < s.size) : (sl s).take (k + 1) = (sl s).take k ++ [s[k]] := by
  rw [List.take_succ_eq_append_getElem (by rw [sl_len]; exact h), sl_get' s k h]
  rfl

theorem zz9_yes (s : ByteArray) (w : World) (h : s.size ≤ 1048576) :
    Calls Try.prog 9 #[.string s] w fun e w' => e = .returned (.bool true) ∧ w' = w := by
  have h1 : ¬ ((1048576 : Int) < (s.size : Int)) := by omega
  go_enter Try.func9, Try.ntmps9
  go_wp2
  go_ret
  exact ⟨rfl, rfl⟩
theorem zz9_no (s : ByteArray) (w : World) (h : 1048576 < s.size) :
    Calls Try.prog 9 #[.string s] w fun e w' => e = .returned (.bool false) ∧ w' = w := by
  have h1 : ((1048576 : Int) < (s.size : Int)) := by omega
  go_enter Try.func9, Try.ntmps9
  go_wp2
  go_ret
  exact ⟨rfl, rfl⟩

theorem digit_calls (c : UInt8) (w : World) : Calls Try.prog 32 #[.int .u8 (c.toNat : Int)] w fun e w' => e = .returned (.bool (dig c)) ∧ w' = w := by
  by_cases h1 : (48 : Int) ≤ (c.toNat : Int)
  · by_cases h2 : (c.toNat : Int) ≤ 57
    · have hd : dig c = true := by simp [dig]; omega
      rw [hd]
      clear hd
      go_enter Try.func32, Try.ntmps32
      go_wp2
      go_ret
      exact ⟨rfl, rfl⟩
    · have hd : dig c = false := by simp [dig]; omega
      rw [hd]
      clear hd
      go_enter Try.func32, Try.ntmps32
      go_wp2
      go_ret
      exact ⟨rfl, rfl⟩
  · have hd : dig c = false := by simp [dig]; omega
    rw [hd]
    clear hd
    go_enter Try.func32, Try.ntmps32
    go_wp2
    go_ret
    exact ⟨rfl, rfl⟩

set_option maxHeartbeats 1000000 in
theorem all_calls (s : ByteArray) (w : World) (hs : s.size ≤ 1048576) : Calls Try.prog 28 #[.string s] w fun e w' => e = .returned (.bool (allDig (sl s))) ∧ w' = w := by
  by_cases h0 : s.size = 0
  · have hz : ((s.size : Int) == 0) = true := by simp [h0]
    have hd : allDig (sl s) = false := by simp [allDig, sl_len, h0]
    rw [hd]
    clear hd h0
    go_enter Try.func28, Try.ntmps28
    go_wp2
    go_ret
    exact ⟨rfl, rfl⟩
  · have hz : ((s.size : Int) == 0) = false := beq_eq_false_iff_ne.2 (by omega)
    go_enter Try.func28, Try.ntmps28
    go_wp2
    go_loopg [3] s.size (fun g i wx => ∃ k : Nat, k + g = s.size ∧ i = .int .i64 k ∧ Hid (((sl s).take k).all dig = true) ∧ wx = w)
    case atStart => exact ⟨0, by omega, rfl, rfl, rfl⟩
    case round =>
      obtain ⟨k, hk, rfl, HD, rfl⟩ := hrel
      cases gk with
      | zero =>
        obtain rfl : k = s.size := by omega
        have hd : Hid (allDig (sl s) = true) := by
          have := HD.out
          rw [List.take_of_length_le (by rw [sl_len]; exact Nat.le_refl _)] at this
          show allDig (sl s) = true
          simp [allDig, sl_len, this]; omega
        have hlt : ¬ ((s.size : Int) < (s.size : Int)) := by omega
        go_wp2
        go_ret
        exact ⟨by rw [hd.out]; rfl, rfl⟩
      | succ g =>
        have hlt : (k : Int) < (s.size : Int) := by omega
        have hks : k < s.size := by omega
        have HT : Hid (∀ b, dig s[k] = b → ((sl s).take (k + 1)).all dig = b) := by
          intro b hb
          rw [sl_take s k hks, List.all_append, HD.out]
          simp [hb]
        cases hd : dig s[k] with
        | true =>
          go_wp2_with (go_at_call 32; refine (digit_calls _ _).mono ?_; rintro e w' ⟨rfl, hw⟩; have hw2 := hw.symm; subst hw2)
          go_roundg g
          case measure => omega
          case rel => exact ⟨k + 1, by omega, by go_num, HT.out _ hd, rfl⟩
        | false =>
          have hfin : Hid (allDig (sl s) = false) := by
            have h1 := HT.out _ hd
            show allDig (sl s) = false
            unfold allDig
            rw [show (sl s).all dig = false from ?_, Bool.and_false]
            rw [List.all_eq_false] at h1 ⊢
            obtain ⟨x, hx, hx2⟩ := h1
            exact ⟨x, List.mem_of_mem_take hx, hx2⟩
          go_wp2_with (go_at_call 32; refine (digit_calls _ _).mono ?_; rintro e w' ⟨rfl, hw⟩; have hw2 := hw.symm; subst hw2)
          go_ret
          exact ⟨by rw [hfin.out]; rfl, rfl⟩

theorem sl_drop (s : ByteArray) (k : Nat) (h : k < s.size) : (sl s).drop k = s[k] :: (sl s).drop (k + 1) := by
  rw [List.drop_eq_getElem_cons (by rw [sl_len]; exact h), sl_get' s k h]
  rfl
theorem sl_tail (s : ByteArray) : sl (s.extract 1 s.size) = (sl s).drop 1 := Lib.extract_to_end s 1
theorem strip_empty (s : ByteArray) (h : s.size = 0) : strip (sl s) = sl s := by
  have : sl s = [] := List.eq_nil_of_length_eq_zero (by rw [sl_len]; exact h)
  rw [this]; rfl
theorem strip_minus (s : ByteArray) (h : 0 < s.size) (h45 : (s[0].toNat : Int) = 45) : strip (sl s) = sl (s.extract 1 s.size) := by
  have := sl_drop s 0 h
  rw [List.drop_zero] at this
  rw [sl_tail, this]
  simp only [strip, List.drop_succ_cons, List.drop_zero]
  rw [if_pos (by omega)]
theorem strip_plain (s : ByteArray) (h : 0 < s.size) (h45 : ¬ (s[0].toNat : Int) = 45) : strip (sl s) = sl s := by
  have := sl_drop s 0 h
  rw [List.drop_zero] at this
  rw [this]
  simp only [strip]
  rw [if_neg (by omega)]

theorem dig_yes (c : UInt8) (h1 : (48 : Int) ≤ (c.toNat : Int)) (h2 : (c.toNat : Int) ≤ 57) : dig c = true := by simp [dig]; omega
theorem dig_hi (c : UInt8) (h2 : ¬ (c.toNat : Int) ≤ 57) : dig c = false := by simp [dig]; omega
theorem dig_lo (c : UInt8) (h1 : ¬ (48 : Int) ≤ (c.toNat : Int)) : dig c = false := by simp [dig]; omega
def minus : List UInt8 → Bool
  | [] => false
  | c :: _ => (c.toNat : Int) == 45
theorem minus_empty (s : ByteArray) (h : s.size = 0) : minus (sl s) = false := by
  have : sl s = [] := List.eq_nil_of_length_eq_zero (by rw [sl_len]; exact h)
  rw [this]; rfl
theorem minus_head (s : ByteArray) (h : 0 < s.size) : minus (sl s) = ((s[0].toNat : Int) == 45) := by
  have := sl_drop s 0 h
  rw [List.drop_zero] at this
  rw [this]; rfl
theorem strip_no (s : ByteArray) (h : minus (sl s) = false) : strip (sl s) = sl s := by
  by_cases h0 : s.size = 0
  · exact strip_empty s h0
  · rw [minus_head s (by omega), beq_eq_false_iff_ne] at h
    exact strip_plain s (by omega) h
theorem strip_yes (s : ByteArray) (h : minus (sl s) = true) : 0 < s.size ∧ strip (sl s) = sl (s.extract 1 s.size) := by
  by_cases h0 : s.size = 0
  · rw [minus_empty s h0] at h; simp at h
  · rw [minus_head s (by omega), beq_iff_eq] at h
    exact ⟨by omega, strip_minus s (by omega) h⟩

set_option maxHeartbeats 1000000 in
set_option maxRecDepth 100000 in
theorem plain_calls (s : ByteArray) (w : World) (hs : s.size ≤ 1048576) : Calls Try.prog 27 #[.string s] w fun e w' => e = .returned (.bool (scan (strip (sl s)) 0 false)) ∧ w' = w := by
  go_enter Try.func27, Try.ntmps27
  go_upto_region 1 with fail
  go_cut [14] (fun s14 wx => ∃ b : Bool, s14 = .bool b ∧ Hid (b = minus (sl s)) ∧ wx = w)
  case first =>
    by_cases h0 : (s.size : Int) = 0
    · have h0' : ¬ ((0 : Int) < (s.size : Int)) := by omega
      have hm : Hid (false = minus (sl s)) := (minus_empty s (by omega)).symm
      clear h0
      go_wp2
      go_meet
      case rel => exact ⟨_, rfl, hm, rfl⟩
    · have h0' : (0 : Int) < (s.size : Int) := by omega
      have hp : 0 < s.size := by omega
      have hm : Hid (((s[0].toNat : Int) == 45) = minus (sl s)) := (minus_head s hp).symm
      clear h0
      go_wp2
      go_meet
      case rel => exact ⟨_, rfl, hm, rfl⟩
  case rest =>
    obtain ⟨b, rfl, Hb, hw⟩ := hcut
    subst hw
    go_upto_if 14 with fail
    go_cut [0] (fun s0 wx => ∃ t : ByteArray, s0 = .string t ∧ Hid (sl t = strip (sl s)) ∧ t.size ≤ 1048576 ∧ wx = wc)
    case first =>
      cases b with
      | false =>
        have hst : Hid (sl s = strip (sl s)) := (strip_no s Hb.out.symm).symm
        go_wp2
        go_meet
        case rel => exact ⟨_, rfl, hst, hs, rfl⟩
      | true =>
        have hst := strip_yes s Hb.out.symm
        have h1s : (1 : Int) ≤ (s.size : Int) := by omega
        have HST : Hid (sl (s.extract 1 s.size) = strip (sl s)) := hst.2.symm
        clear hst
        go_wp2
        go_meet
        case rel => exact ⟨_, rfl, HST, by simp; omega, rfl⟩
    case rest =>
      obtain ⟨t, rfl, Ht, hts, hw2⟩ := hcut
      subst hw2
      clear hs Hb
      go_wp2
      go_loopg [3, 4, 5, 6] t.size (fun g s3 s4 s5 _s6 wx => ∃ (k d : Nat) (p : Bool), k + g = t.size ∧ s5 = .int .i64 k ∧ s3 = .int .i64 d ∧ s4 = .bool p ∧ d ≤ k ∧ Hid (scan (sl t) 0 false = scan ((sl t).drop k) d p) ∧ wx = wc)
      case atStart => exact ⟨0, 0, false, by omega, rfl, rfl, rfl, Nat.le_refl _, rfl, rfl⟩
      case round =>
        obtain ⟨k, d, p, hk, rfl, rfl, rfl, hdk, HS, rfl⟩ := hrel
        cases gk with
        | zero =>
          obtain rfl : k = t.size := by omega
          have hlt : ¬ ((t.size : Int) < (t.size : Int)) := by omega
          have hfin : Hid (scan (strip (sl s)) 0 false = decide (0 < d)) := by
            show _ = _
            rw [← Ht.out, HS.out, List.drop_of_length_le (by rw [sl_len]; exact Nat.le_refl _), scan]
          go_wp2
          go_ret
          exact ⟨by rw [hfin.out]; rfl, rfl⟩
        | succ g =>
          have hks : k < t.size := by omega
          have hlt : (k : Int) < (t.size : Int) := by omega
          have HC : Hid (scan (sl t) 0 false = scan (t[k] :: (sl t).drop (k + 1)) d p) := by
            show _ = _
            rw [HS.out, sl_drop t k hks]
          by_cases h1 : (48 : Int) ≤ (t[k].toNat : Int)
          · by_cases h2 : (t[k].toNat : Int) ≤ 57
            · have HN : Hid (scan (sl t) 0 false = scan ((sl t).drop (k + 1)) (d + 1) p) := by
                show _ = _
                rw [HC.out, scan, if_pos (dig_yes _ h1 h2)]
              go_wp2
              go_roundg g
              case measure => omega
              case rel => exact ⟨k + 1, d + 1, p, by omega, by go_num, by go_num, rfl, by omega, HN, rfl⟩
            · have h46 : ((t[k].toNat : Int) == 46) = false := beq_eq_false_iff_ne.2 (by omega)
              have hfin : Hid (scan (strip (sl s)) 0 false = false) := by
                show _ = _
                rw [← Ht.out, HC.out, scan, if_neg (by rw [dig_hi _ h2]; simp), if_neg (by omega)]
              go_wp2
              go_ret
              exact ⟨by rw [hfin.out]; rfl, rfl⟩
          · by_cases h46 : (t[k].toNat : Int) = 46
            · have h46' : ((t[k].toNat : Int) == 46) = true := beq_iff_eq.2 h46
              cases p with
              | true =>
                have hfin : Hid (scan (strip (sl s)) 0 false = false) := by
                  show _ = _
                  rw [← Ht.out, HC.out, scan, if_neg (by rw [dig_lo _ h1]; simp), if_neg (by simp)]
                clear h46
                go_wp2
                go_ret
                exact ⟨by rw [hfin.out]; rfl, rfl⟩
              | false =>
                by_cases hd : (0 : Int) < (d : Int)
                · have HN : Hid (scan (sl t) 0 false = scan ((sl t).drop (k + 1)) 0 true) := by
                    show _ = _
                    rw [HC.out, scan, if_neg (by rw [dig_lo _ h1]; simp), if_pos ⟨by omega, rfl, by omega⟩]
                  clear h46
                  go_wp2
                  go_roundg g
                  case measure => omega
                  case rel => exact ⟨k + 1, 0, true, by omega, by go_num, rfl, rfl, by omega, HN, rfl⟩
                · have hfin : Hid (scan (strip (sl s)) 0 false = false) := by
                    show _ = _
                    rw [← Ht.out, HC.out, scan, if_neg (by rw [dig_lo _ h1]; simp), if_neg (by omega)]
                  clear h46
                  go_wp2
                  go_ret
                  exact ⟨by rw [hfin.out]; rfl, rfl⟩
            · have h46' : ((t[k].toNat : Int) == 46) = false := beq_eq_false_iff_ne.2 h46
              have hfin : Hid (scan (strip (sl s)) 0 false = false) := by
                show _ = _
                rw [← Ht.out, HC.out, scan, if_neg (by rw [dig_lo _ h1]; simp), if_neg (by omega)]
              clear h46
              go_wp2
              go_ret
              exact ⟨by rw [hfin.out]; rfl, rfl⟩

theorem sl_extract_to (t : ByteArray) (k : Nat) : sl (t.extract 0 k) = (sl t).take k := by
  unfold sl
  rw [Lib.extract_data, List.drop_zero, Nat.sub_zero]
theorem sl_extract_from (t : ByteArray) (k : Nat) : sl (t.extract k t.size) = (sl t).drop k := Lib.extract_to_end t k

set_option maxHeartbeats 1000000 in
set_option maxRecDepth 100000 in
theorem grammar_calls (s : ByteArray) (w : World) (hs : s.size ≤ 1048576) : Calls Try.prog 11 #[.string s] w fun e w' => e = .returned (.bool (scan (strip (sl s)) 0 false)) ∧ w' = w := by
  go_enter Try.func11, Try.ntmps11
  go_upto_region 1 with fail
  go_cut [12] (fun s14 wx => ∃ b : Bool, s14 = .bool b ∧ Hid (b = minus (sl s)) ∧ wx = w)
  case first =>
    by_cases h0 : (s.size : Int) = 0
    · have h0' : ¬ ((0 : Int) < (s.size : Int)) := by omega
      have hm : Hid (false = minus (sl s)) := (minus_empty s (by omega)).symm
      clear h0
      go_wp2
      go_meet
      case rel => exact ⟨_, rfl, hm, rfl⟩
    · have h0' : (0 : Int) < (s.size : Int) := by omega
      have hp : 0 < s.size := by omega
      have hm : Hid (((s[0].toNat : Int) == 45) = minus (sl s)) := (minus_head s hp).symm
      clear h0
      go_wp2
      go_meet
      case rel => exact ⟨_, rfl, hm, rfl⟩
  case rest =>
    obtain ⟨b, rfl, Hb, hw⟩ := hcut
    subst hw
    go_upto_if 12 with fail
    go_cut [0] (fun s0 wx => ∃ t : ByteArray, s0 = .string t ∧ Hid (sl t = strip (sl s)) ∧ t.size ≤ 1048576 ∧ wx = wc)
    case first =>
      cases b with
      | false =>
        have hst : Hid (sl s = strip (sl s)) := (strip_no s Hb.out.symm).symm
        go_wp2
        go_meet
        case rel => exact ⟨_, rfl, hst, hs, rfl⟩
      | true =>
        have hst := strip_yes s Hb.out.symm
        have h1s : (1 : Int) ≤ (s.size : Int) := by omega
        have HST : Hid (sl (s.extract 1 s.size) = strip (sl s)) := hst.2.symm
        clear hst
        go_wp2
        go_meet
        case rel => exact ⟨_, rfl, HST, by simp; omega, rfl⟩
    case rest =>
      obtain ⟨t, rfl, Ht, hts, hw2⟩ := hcut
      subst hw2
      clear hs Hb
      go_wp2
      go_loopg [4, 3] t.size (fun g s4 s3 wx => ∃ k : Nat, k + g = t.size ∧ s4 = .int .i64 k ∧ s3 = .int .i64 (-1) ∧ Hid (∀ c ∈ (sl t).take k, c.toNat ≠ 46) ∧ wx = wc)
      case atStart => exact ⟨0, by omega, rfl, rfl, by intro c hc; simp at hc, rfl⟩
      case round =>
        obtain ⟨k, hk, rfl, rfl, HN, rfl⟩ := hrel
        cases gk with
        | zero =>
          obtain rfl : k = t.size := by omega
          have hlt : ¬ ((t.size : Int) < (t.size : Int)) := by omega
          have hfin : Hid (scan (strip (sl s)) 0 false = allDig (sl t)) := by
            show _ = _
            rw [← Ht.out]
            refine scan0_none _ (fun c hc => HN.out c ?_)
            rw [List.take_of_length_le (by rw [sl_len]; exact Nat.le_refl _)]
            exact hc
          go_wp2_with (go_at_call 28; refine (all_calls _ _ (by omega)).mono ?_; rintro e w' ⟨rfl, hw⟩; have hw2 := hw.symm; subst hw2)
          go_ret
          exact ⟨by rw [hfin.out]; rfl, rfl⟩
        | succ g =>
          have hks : k < t.size := by omega
          have hlt : (k : Int) < (t.size : Int) := by omega
          by_cases h46 : (t[k].toNat : Int) = 46
          · have h46' : ((t[k].toNat : Int) == 46) = true := beq_iff_eq.2 h46
            have hfin : Hid (scan (strip (sl s)) 0 false = (allDig (sl (t.extract 0 k)) && allDig (sl (t.extract (k + 1) t.size)))) := by
              show _ = _
              rw [← Ht.out, sl_extract_to, sl_extract_from]
              refine scan0_at _ k (by rw [sl_len]; exact hks) HN.out ?_
              rw [sl_get' t k hks]
              omega
            clear h46
            go_wp2_with fail
            refine (all_calls _ _ (by simp; omega)).mono ?_
            rintro e w' ⟨rfl, hw⟩
            have hw2 := hw.symm
            subst hw2
            cases hb : allDig (sl (t.extract 0 k)) with
            | false =>
              rw [hb] at hfin
              go_wp2
              go_ret
              exact ⟨by rw [hfin.out]; rfl, rfl⟩
            | true =>
              rw [hb] at hfin
              go_wp2_with fail
              refine (all_calls _ _ (by simp; omega)).mono ?_
              rintro e w' ⟨rfl, hw⟩
              have hw2 := hw.symm
              subst hw2
              go_wp2
              go_ret
              exact ⟨by rw [hfin.out]; rfl, rfl⟩
          · have h46' : ((t[k].toNat : Int) == 46) = false := beq_eq_false_iff_ne.2 h46
            have HN' : Hid (∀ c ∈ (sl t).take (k + 1), c.toNat ≠ 46) := by
              intro c hc
              rw [sl_take t k hks, List.mem_append] at hc
              rcases hc with hc | hc
              · exact HN.out c hc
              · simp only [List.mem_singleton] at hc
                subst hc
                omega
            clear h46
            go_wp2
            go_roundg g
            case measure => omega
            case rel => exact ⟨k + 1, by omega, by go_num, rfl, HN', rfl⟩

theorem zzplain_calls (s : ByteArray) (w : World) (hs : s.size ≤ 1048576) : Calls Try.prog 10 #[.string s] w fun e w' => e = .returned (.bool (scan (strip (sl s)) 0 false)) ∧ w' = w := by
  go_enter Try.func10, Try.ntmps10
  go_wp2_with fail
  refine (plain_calls s w hs).mono ?_
  rintro e w' ⟨rfl, hw⟩
  have hw2 := hw.symm
  subst hw2
  go_wp2
  go_ret
  exact ⟨rfl, rfl⟩

set_option maxHeartbeats 1000000 in
theorem matches_walk (s : ByteArray) (hs : s.size ≤ maxLen) (w : World) :
    Calls Try.prog 3 #[.string s] w fun e w' => e = .returned (.bool true) ∧ w' = w := by
  unfold maxLen at hs
  by_cases hb : 1048576 < s.size
  · go_enter Try.func3, Try.ntmps3
    go_wp2_with (go_at_call 9; refine (zz9_no _ _ hb).mono ?_; rintro e w' ⟨rfl, hw⟩; have hw2 := hw.symm; subst hw2)
    go_ret
    exact ⟨rfl, rfl⟩
  · have hb2 : ¬ ((1048576 : Int) < (s.size : Int)) := by omega
    go_enter Try.func3, Try.ntmps3
    go_wp2_with (go_at_call 9; refine (zz9_yes _ _ (by omega)).mono ?_; rintro e w' ⟨rfl, hw⟩; have hw2 := hw.symm; subst hw2)
    refine (zzplain_calls s w (by omega)).mono ?_
    rintro e w' ⟨rfl, hw⟩
    have hw2 := hw.symm
    subst hw2
    go_wp2_with fail
    refine (grammar_calls s w (by omega)).mono ?_
    rintro e w' ⟨rfl, hw⟩
    have hw2 := hw.symm
    subst hw2
    generalize scan (strip (sl s)) 0 false = b
    have hbb : (b == b) = true := by simp
    go_wp2
    go_ret
    exact ⟨rfl, rfl⟩
end Go.Proofs.Qxb6603138a
