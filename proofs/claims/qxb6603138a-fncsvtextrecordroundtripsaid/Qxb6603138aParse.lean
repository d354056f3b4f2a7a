import Derived.Test.Qxb6603138aStrs
import Derived.Test.Qxb6603138aRec
import Derived.Test.Qxb6603138aUnquote
namespace Go.Proofs.Qxb6603138a
open Go.RowKit

/-! ### What the reader meets, plainly -/
theorem getD_mid (pre x y : List UInt8) (p : Nat) (hp : p < x.length) : (pre ++ (x ++ y)).getD (pre.length + p) 0 = x.getD p 0 := by
  have hnl : ¬ pre.length + p < pre.length := by omega
  simp only [List.getD_eq_getElem?_getD, List.getElem?_append, if_neg hnl, Nat.add_sub_cancel_left, if_pos hp]
structure RdQ (B : List UInt8) (i n : Nat) (f rest : List UInt8) : Prop where
  len : n = i + 1 + (dbl f).length + 1 + rest.length
  q0 : B.getD i 0 = 34
  qd : ∀ p, p < (dbl f).length → B.getD (i + 1 + p) 0 = (dbl f).getD p 0
  qe : B.getD (i + 1 + (dbl f).length) 0 = 34
  qr : ∀ r, rest = 44 :: r → B.getD (i + 1 + (dbl f).length + 1) 0 = 44
structure RdU (B : List UInt8) (i n : Nat) (f rest : List UInt8) : Prop where
  len : n = i + f.length + rest.length
  ud : ∀ p, p < f.length → B.getD (i + p) 0 = f.getD p 0
  ur : ∀ r, rest = 44 :: r → B.getD (i + f.length) 0 = 44
theorem rdq {pre f rest : List UInt8} (hq : needs f = true) : RdQ (pre ++ (field f ++ rest)) pre.length (pre ++ (field f ++ rest)).length f rest := by
  have hf : field f = [34] ++ dbl f ++ [34] := by rw [field, hq]; rfl
  rw [hf]
  refine ⟨by simp only [List.length_append, List.length_cons, List.length_nil]; omega, ?_, fun p hp => ?_, ?_, fun r hr => ?_⟩
  · simp
  · have := getD_mid (pre ++ [34]) (dbl f) ([34] ++ rest) p hp
    rw [List.length_append] at this
    simpa using this
  · have := getD_mid (pre ++ [34] ++ dbl f) [34] rest 0 (by simp)
    rw [List.length_append, List.length_append] at this
    simpa using this
  · subst hr
    have := getD_mid (pre ++ [34] ++ dbl f ++ [34]) [44] r 0 (by simp)
    rw [List.length_append, List.length_append, List.length_append] at this
    simpa using this
theorem rdu {pre f rest : List UInt8} (hq : needs f = false) : RdU (pre ++ (field f ++ rest)) pre.length (pre ++ (field f ++ rest)).length f rest := by
  have hf : field f = f := by rw [field, hq]; rfl
  rw [hf]
  refine ⟨by simp only [List.length_append]; omega, fun p hp => getD_mid pre f rest p hp, fun r hr => ?_⟩
  subst hr
  simp
theorem plain_at {f : List UInt8} (hq : needs f = false) (p : Nat) (hp : p < f.length) : special (f.getD p 0) = false := by
  unfold needs at hq
  rw [List.any_eq_false] at hq
  have := hq (f.getD p 0) (by rw [List.getD_eq_getElem?_getD, List.getElem?_eq_getElem hp]; exact List.getElem_mem hp)
  simpa using this
theorem special_out {c : UInt8} (h : special c = false) : ¬ (c.toNat : Int) = 44 ∧ ¬ (c.toNat : Int) = 34 ∧ ¬ (c.toNat : Int) = 13 ∧ ¬ (c.toNat : Int) = 10 := by
  unfold special at h
  simp only [Bool.or_eq_false_iff, beq_eq_false_iff_ne] at h
  omega
def mk (l : List UInt8) : ByteArray := ⟨l.toArray⟩
/-- What the reader hands back. -/
def Parsed (fs : List (List UInt8)) (w : World) (e : Ending) (w' : World) : Prop :=
  ∃ ao co, e = .returned (.tuple #[.slice ao fs.length co, .bool true]) ∧ StrsAt w' ao (fs.map mk) ∧ Below w.heap.size w w'
/-- Behind the append of one string, outside the walk. -/
theorem strs_after {base : Nat} {w wr w1 : World} {v v' : Value} {l r : List ByteArray} {news : List Value} {o : Obj} (hb : Below base w wr) (hbase : base ≤ wr.heap.size)
    (hown : OwnsS wr base v l) (hown' : w1.ownsRow base 9 1 v' (l.length + r.length) (strCellsOf l ++ news)) (hn : news = strCellsOf r) (hg : (wr.alloc o).grownBy w1 v.ownBlock) :
    OwnsS w1 base v' (l ++ r) ∧ Below base w w1 := by
  subst hn
  refine ⟨by unfold OwnsS; rw [List.length_append, strCellsOf_append]; exact hown', ?_⟩
  exact (hb.alloc hbase o).grown hg (by simp; omega) (fun k hk => (hown.lt k hk).1)

set_option maxHeartbeats 8000000 in
set_option maxRecDepth 100000 in
theorem parse_calls (a : Option Addr) (fs : List (List UInt8)) (n cap : Nat) (w : World) (hn : (line fs).length = n) (hB : BytesAt w a (line fs)) (hne : 0 < fs.length) (hfl : fs.length ≤ 65536) (hl : n ≤ 4194304) :
    Calls Try.prog 26 #[.slice a n cap] w fun e w' => Parsed fs w e w' := by
  obtain ⟨i5, hi5, hz50, hz51, hz52⟩ := info_parts info5
  obtain ⟨i9, hi9, hz90, hz91, hz92⟩ := info_parts info9
  go_enter Try.func26, Try.ntmps26
  go_wp2
  go_loopg [4, 5, 6, 7] (fs.length - 1) (fun g s4 s5 _s6 _s7 wx => ∃ (k i : Nat) (OS : List ByteArray), k + (g + 1) = fs.length ∧ s5 = .int .i64 (i : Nat) ∧ Hid (i = pos fs k) ∧ Hid (OS = (fs.take k).map mk) ∧ OwnsS wx w.heap.size s4 OS ∧ Below w.heap.size w wx)
  case atStart => exact ⟨0, 0, [], by omega, rfl, rfl, rfl, OwnsS.nil _ _, Below.refl _ _⟩
  case round =>
    obtain ⟨k, i, OS, hk, rfl, HI, HOS, hO, hb⟩ := hrel
    obtain ⟨w5, hw5⟩ : ∃ w5, w5 = wr := ⟨_, rfl⟩
    subst hw5
    obtain ⟨pre, hpre, hsplit⟩ := line_split fs k (by omega)
    have HP := pos_next fs k (by omega)
    have HNX : Hid (∀ x, fs.getD k [] = x → (fs.take (k + 1)).map mk = (fs.take k).map mk ++ [mk x]) := by
      intro x hx
      rw [List.take_succ_eq_append_getElem (by omega), List.map_append]
      have : fs[k]'(by omega) = x := by rw [← hx]; simp [List.getD_eq_getElem?_getD, show k < fs.length by omega]
      rw [this]; rfl
    have HREST : Hid ((tl (fs.drop (k + 1)) = [] ∧ gk = 0) ∨ ∃ r, tl (fs.drop (k + 1)) = 44 :: r ∧ gk ≠ 0) := by
      rcases tl_head (fs.drop (k + 1)) with ⟨h1, h2⟩ | ⟨r, h1, h2⟩
      · refine .inl ⟨h1, ?_⟩
        have := congrArg List.length h2
        simp at this; omega
      · refine .inr ⟨r, h1, ?_⟩
        intro h0
        apply h2
        apply List.eq_nil_of_length_eq_zero
        simp; omega
    generalize fs.getD k [] = f at *
    generalize tl (fs.drop (k + 1)) = rest at *
    have hB5 := hB.below hb
    have hBw := hB
    rw [hsplit] at hB5 hn hBw
    have hpi : pre.length = i := by rw [hpre, HI.out]
    have HQ : Hid (needs f = true → RdQ (pre ++ (field f ++ rest)) i n f rest) := fun hq => by have := rdq (pre := pre) (rest := rest) hq; rw [hn, hpi] at this; exact this
    have HU : Hid (needs f = false → RdU (pre ++ (field f ++ rest)) i n f rest) := fun hq => by have := rdu (pre := pre) (rest := rest) hq; rw [hn, hpi] at this; exact this
    have HPN : Hid (pos fs (k + 1) = i + (field f).length + 1) := by show _ = _; rw [HP, HI.out]
    have hBl : (pre ++ (field f ++ rest)).length = n := hn
    generalize pre ++ (field f ++ rest) = B at *
    clear hsplit hpre hpi HP hn hB
    have hin : i ≤ n := by
      cases hq : needs f with
      | true => have := (HQ.out hq).len; omega
      | false => have := (HU.out hq).len; omega
    have hin' : (i : Int) ≤ (n : Int) := by omega
    go_upto_region 5 with fail
    go_cut [22] (fun s22 wx => s22 = .bool (needs f) ∧ wx = w5)
    case first =>
      cases hq : needs f with
      | true =>
        have hR := HQ.out hq
        have hlen := hR.len
        obtain ⟨b, off, rfl, _, hc⟩ := hB5.at i (by omega)
        have hci := hc i (by omega)
        rw [hR.q0, show (((34 : UInt8).toNat : Nat) : Int) = 34 from rfl] at hci
        have t1 : (i : Int) < (n : Int) := by omega
        clear hc hR hlen
        go_wp2
        go_meet
        case rel => exact ⟨by rw [hq], rfl⟩
      | false =>
        have hR := HU.out hq
        have hlen := hR.len
        by_cases hi : i < n
        · obtain ⟨b, off, rfl, _, hc⟩ := hB5.at i (by omega)
          have hci := hc i (by omega)
          have h34 : (((B.getD i 0).toNat : Int) == 34) = false := by
            rw [beq_eq_false_iff_ne]
            by_cases hf0 : 0 < f.length
            · have := hR.ud 0 hf0
              rw [Nat.add_zero] at this
              rw [this]
              exact (special_out (plain_at hq 0 hf0)).2.1
            · rcases HREST.out with ⟨h1, _⟩ | ⟨r, h1, _⟩
              · rw [h1] at hlen; simp at hlen; omega
              · have := hR.ur r h1
                rw [show f.length = 0 by omega, Nat.add_zero] at this
                rw [this]; decide
          have t1 : (i : Int) < (n : Int) := by omega
          generalize B.getD i 0 = c at *
          clear hc hR hlen
          go_wp2
          go_meet
          case rel => exact ⟨by rw [hq], rfl⟩
        · have t1 : ¬ ((i : Int) < (n : Int)) := by omega
          clear hR hlen
          go_wp2
          go_meet
          case rel => exact ⟨by rw [hq], rfl⟩
    case rest =>
      obtain ⟨rfl, hwc⟩ := hcut
      have hwc2 := hwc.symm
      subst hwc2
      go_upto_if 22 with fail
      go_cut [5, 6, 7] (fun s5 s6 _s7 wx => s5 = .int .i64 ((i + (field f).length : Nat) : Int) ∧ Owns wx w5.heap.size s6 f ∧ Below w5.heap.size w5 wx)
      case first =>
        cases hq : needs f with
        | true =>
          have hR := HQ.out hq
          have HR : Hid (RdQ B i n f rest) := hR
          have hlen := hR.len
          have hfl2 : (field f).length = (dbl f).length + 2 := by rw [field, hq]; simp
          obtain ⟨m, hm⟩ : ∃ m, m = (dbl f).length := ⟨_, rfl⟩
          have Hm : Hid (m = (dbl f).length) := hm
          rw [← hm] at hlen hfl2
          obtain ⟨b, off, rfl, hbl, hc⟩ := hB5.at i (by omega)
          have HC : Hid (∀ wx x, Below w5.heap.size w5 wx → x < n → wx.cell? ⟨b, off + x, none⟩ = some (.int .u8 (((B.getD x 0).toNat : Nat) : Int))) := by
            intro wx x hbx hx
            rw [hbx.cell (p := ⟨b, off + x, none⟩) hbl]
            exact hc x (by omega)
          have hfd : f.length ≤ m := by have := dbl_len f; omega
          have HFL : Hid ((field f).length = m + 2) := hfl2
          have hl1 : n ≤ i + 1 + m + 1 + rest.length := by omega
          have hl2 : i + 1 + m + 1 + rest.length ≤ n := by omega
          clear hc hR hm hfl2 hlen
          go_wp2
          go_loopg [5, 6, 7] f.length (fun g s5 s6 s7 wx => ∃ (j x : Nat) (LL : List UInt8), j + g = f.length ∧ s5 = .int .i64 (x : Nat) ∧ Hid (x = i + 1 + (dbl (f.take j)).length) ∧ s7 = .bool false ∧ Hid (LL = f.take j) ∧ Owns wx w5.heap.size s6 LL ∧ Below w5.heap.size w5 wx)
          case atStart => exact ⟨0, i + 1, [], by omega, by go_num, by show _ = _; simp [dbl], rfl, rfl, Owns.nil _ _, Below.refl _ _⟩
          case round =>
            obtain ⟨j, x, LL, hj, rfl, HX, rfl, HLL, hOf, hbf⟩ := hrel
            obtain ⟨av, cv, rfl, hcv, hmv, hBv, _⟩ := hOf.form
            have hLl : LL.length ≤ 4194304 := by
              rw [HLL.out, List.length_take]
              omega
            have hownr : wr.ownsRow w5.heap.size 5 1 (.slice av LL.length cv) LL.length (Lib.byteCells LL) := hOf
            have hsz := hbf.size
            cases gk with
            | zero =>
              have hx : x = i + 1 + m := by rw [HX.out, List.take_of_length_le (by omega), Hm.out]
              have HLe : Hid (LL = f) := by show _ = _; rw [HLL.out, List.take_of_length_le (by omega)]
              have hcx := HC.out wr x hbf (by omega)
              rw [hx, Hm.out, HR.out.qe, ← Hm.out, ← hx, show (((34 : UInt8).toNat : Nat) : Int) = 34 from rfl] at hcx
              have t1 : (x : Int) < (n : Int) := by omega
              have HX2 : Hid (x + 1 = i + (field f).length) := by show _ = _; rw [HFL.out]; omega
              rcases HREST.out with ⟨h1, h2⟩ | ⟨r, h1, h2⟩
              · have hr0 : rest.length = 0 := by rw [h1]; rfl
                have hx1 : ¬ ((x : Int) + 1 < (n : Int)) := by omega
                clear hx h2 hr0 h1
                go_wp2
                go_meet
                case rel => exact ⟨by rw [← HX2.out]; go_num, by rw [← HLe.out]; exact hOf, hbf⟩
              · have hrl : rest.length = r.length + 1 := by rw [h1]; rfl
                have hx1 : (x : Int) + 1 < (n : Int) := by omega
                have hcx1 := HC.out wr (x + 1) hbf (by omega)
                rw [hx, Hm.out, HR.out.qr r h1, ← Hm.out, ← hx, show (((44 : UInt8).toNat : Nat) : Int) = 44 from rfl] at hcx1
                clear hx h2 hrl h1
                go_wp2
                go_meet
                case rel => exact ⟨by rw [← HX2.out]; go_num, by rw [← HLe.out]; exact hOf, hbf⟩
            | succ g =>
              have hjl : j < f.length := by omega
              have HGI : Hid (∀ p, p < (dbl1 (f.getD j 0)).length → B.getD (x + p) 0 = (dbl1 (f.getD j 0)).getD p 0) := by
                intro p hp
                have h1 := dbl_at f j hjl p hp
                have h2 := dbl_room f j hjl
                have h3 := HR.out.qd ((dbl (f.take j)).length + p) (by omega)
                rw [← h1, ← h3, HX.out]
                congr 1; omega
              have HL : Hid (∀ p, (dbl1 (f.getD j 0)).length = p → x + p = i + 1 + (dbl (f.take (j + 1))).length ∧ x + p ≤ i + 1 + m) := by
                intro p hp
                have h2 := dbl_room f j hjl
                rw [hp, ← Hm.out] at h2
                rw [dbl_next f j hjl, List.length_append, hp, HX.out]
                constructor <;> omega
              have HLn : Hid (LL ++ [f.getD j 0] = f.take (j + 1)) := by
                show _ = _
                rw [HLL.out, List.take_succ_eq_append_getElem hjl]
                simp [List.getD_eq_getElem?_getD, hjl]
              generalize f.getD j 0 = o at *
              by_cases he : o.toNat = 34
              · have hone : dbl1 o = [34, o] := by simp [dbl1, he]
                have ho34 : o = 34 := UInt8.toNat_inj.1 he
                subst ho34
                have hL := HL.out 2 (by rw [hone]; rfl)
                have hg0 := HGI.out 0 (by rw [hone]; simp)
                have hg1 := HGI.out 1 (by rw [hone]; simp)
                rw [hone] at hg0 hg1
                have hc0 := HC.out wr x hbf (by omega)
                have hc1 := HC.out wr (x + 1) hbf (by omega)
                rw [Nat.add_zero] at hg0
                rw [hg0] at hc0
                rw [hg1] at hc1
                simp only [List.getD_cons_zero, List.getD_cons_succ, show (((34 : UInt8).toNat : Nat) : Int) = 34 from rfl] at hc0 hc1
                have t1 : (x : Int) < (n : Int) := by omega
                have t2 : (x : Int) + 1 < (n : Int) := by omega
                have HRX : Hid (x + 2 = i + 1 + (dbl (f.take (j + 1))).length) := hL.1
                clear hg0 hg1 hL hone he
                go_wp2_with (at_builtin; refine wpList_append_own _ rfl (.tmp 47) (.tmp 48) 24 rfl w5.heap.size 5 i5 (.int .u8 0) 1 1 Try.underlying24 hi5 hz50 hz51 hz52 rfl (by decide) (.slice av LL.length cv) LL.length (Lib.byteCells LL) rfl (hownr.alloc _) ⟨wr.heap.size, 0, none⟩ 1 1 [.int .u8 34] rfl rfl (one_new _ _ _) (byteCells_one [34]) (by unfold maxLen; omega) (by omega) (by simp; omega) ?_; intro v' w2 hown' hgrow _)
                have R := own_after (r := [34]) hbf hsz hOf hown' rfl hgrow
                clear hown' hgrow
                go_wp2
                go_roundg g
                case measure => omega
                case rel => exact ⟨j + 1, x + 2, _, by omega, by go_num, HRX, rfl, HLn, R.1, R.2⟩
              · have hone : dbl1 o = [o] := by simp [dbl1, he]
                have e34 : ((o.toNat : Int) == 34) = false := beq_eq_false_iff_ne.2 (by omega)
                have hL := HL.out 1 (by rw [hone]; rfl)
                have hg0 := HGI.out 0 (by rw [hone]; simp)
                rw [hone] at hg0
                have hc0 := HC.out wr x hbf (by omega)
                rw [Nat.add_zero] at hg0
                rw [hg0] at hc0
                simp only [List.getD_cons_zero] at hc0
                have t1 : (x : Int) < (n : Int) := by omega
                have HRX : Hid (x + 1 = i + 1 + (dbl (f.take (j + 1))).length) := hL.1
                clear hg0 hL hone he
                go_wp2_with (at_builtin; refine wpList_append_own _ rfl (.tmp 54) (.tmp 59) 24 rfl w5.heap.size 5 i5 (.int .u8 0) 1 1 Try.underlying24 hi5 hz50 hz51 hz52 rfl (by decide) (.slice av LL.length cv) LL.length (Lib.byteCells LL) rfl (hownr.alloc _) ⟨wr.heap.size, 0, none⟩ 1 1 [.int .u8 (o.toNat : Int)] rfl rfl (one_new _ _ _) (byteCells_one [o]) (by unfold maxLen; omega) (by omega) (by simp; omega) ?_; intro v' w2 hown' hgrow _)
                have R := own_after (r := [o]) hbf hsz hOf hown' rfl hgrow
                clear hown' hgrow
                go_wp2
                go_roundg g
                case measure => omega
                case rel => exact ⟨j + 1, x + 1, _, by omega, by go_num, HRX, rfl, HLn, R.1, R.2⟩
        | false =>
          have hR := HU.out hq
          have HR : Hid (RdU B i n f rest) := hR
          have hlen := hR.len
          have HFL : Hid ((field f).length = f.length) := by show _ = _; rw [field, hq]; rfl
          have hl1 : n ≤ i + f.length + rest.length := by omega
          have hl2 : i + f.length + rest.length ≤ n := by omega
          have HC : Hid (∀ wx x, Below w5.heap.size w5 wx → x < n → ∃ b off, a = some ⟨b, off, none⟩ ∧ wx.cell? ⟨b, off + x, none⟩ = some (.int .u8 (((B.getD x 0).toNat : Nat) : Int))) := by
            intro wx x hbx hx
            obtain ⟨b, off, e, hbl, hc⟩ := hB5.at x (by omega)
            refine ⟨b, off, e, ?_⟩
            rw [hbx.cell (p := ⟨b, off + x, none⟩) hbl]
            exact hc x (by omega)
          have HPL : Hid (∀ p, p < f.length → special (f.getD p 0) = false) := plain_at hq
          clear hR hlen
          go_wp2
          go_loopg [5, 6] f.length (fun g s5 s6 wx => ∃ (j x : Nat) (LL : List UInt8), j + g = f.length ∧ s5 = .int .i64 (x : Nat) ∧ Hid (x = i + j) ∧ Hid (LL = f.take j) ∧ Owns wx w5.heap.size s6 LL ∧ Below w5.heap.size w5 wx)
          case atStart => exact ⟨0, i, [], by omega, rfl, rfl, rfl, Owns.nil _ _, Below.refl _ _⟩
          case round =>
            obtain ⟨j, x, LL, hj, rfl, HX, HLL, hOf, hbf⟩ := hrel
            obtain ⟨av, cv, rfl, hcv, hmv, hBv, _⟩ := hOf.form
            have hLl : LL.length ≤ 4194304 := by
              rw [HLL.out, List.length_take]
              omega
            have hownr : wr.ownsRow w5.heap.size 5 1 (.slice av LL.length cv) LL.length (Lib.byteCells LL) := hOf
            have hsz := hbf.size
            cases gk with
            | zero =>
              have hx : x = i + f.length := by rw [HX.out]; omega
              have HLe : Hid (LL = f) := by show _ = _; rw [HLL.out, List.take_of_length_le (by omega)]
              have HX2 : Hid (x = i + (field f).length) := by show _ = _; rw [HFL.out]; exact hx
              rcases HREST.out with ⟨h1, h2⟩ | ⟨r, h1, h2⟩
              · have hr0 : rest.length = 0 := by rw [h1]; rfl
                have t1 : ¬ ((x : Int) < (n : Int)) := by omega
                clear hx h2 hr0 h1
                go_wp2
                go_meet
                case rel => exact ⟨by rw [← HX2.out], by rw [← HLe.out]; exact hOf, hbf⟩
              · have hrl : rest.length = r.length + 1 := by rw [h1]; rfl
                have t1 : (x : Int) < (n : Int) := by omega
                obtain ⟨b, off, rfl, hcx⟩ := HC.out wr x hbf (by omega)
                rw [hx, HR.out.ur r h1, ← hx, show (((44 : UInt8).toNat : Nat) : Int) = 44 from rfl] at hcx
                clear hx h2 hrl h1
                go_wp2
                go_meet
                case rel => exact ⟨by rw [← HX2.out], by rw [← HLe.out]; exact hOf, hbf⟩
            | succ g =>
              have hjl : j < f.length := by omega
              have hx : x = i + j := HX.out
              obtain ⟨b, off, rfl, hcx⟩ := HC.out wr x hbf (by omega)
              rw [hx, HR.out.ud j hjl, ← hx] at hcx
              have hsp := special_out (HPL.out j hjl)
              have HLn : Hid (LL ++ [f.getD j 0] = f.take (j + 1)) := by
                show _ = _
                rw [HLL.out, List.take_succ_eq_append_getElem hjl]
                simp [List.getD_eq_getElem?_getD, hjl]
              have t1 : (x : Int) < (n : Int) := by omega
              have HRX : Hid (x + 1 = i + (j + 1)) := by show _ = _; omega
              generalize f.getD j 0 = o at *
              have e44 : ((o.toNat : Int) != 44) = true := by rw [bne_iff_ne]; exact hsp.1
              have e34 : ((o.toNat : Int) == 34) = false := beq_eq_false_iff_ne.2 hsp.2.1
              have e13 : ((o.toNat : Int) == 13) = false := beq_eq_false_iff_ne.2 hsp.2.2.1
              have e10 : ((o.toNat : Int) == 10) = false := beq_eq_false_iff_ne.2 hsp.2.2.2
              clear hx hsp
              go_wp2_with (at_builtin; refine wpList_append_own _ rfl (.tmp 95) (.tmp 100) 24 rfl w5.heap.size 5 i5 (.int .u8 0) 1 1 Try.underlying24 hi5 hz50 hz51 hz52 rfl (by decide) (.slice av LL.length cv) LL.length (Lib.byteCells LL) rfl (hownr.alloc _) ⟨wr.heap.size, 0, none⟩ 1 1 [.int .u8 (o.toNat : Int)] rfl rfl (one_new _ _ _) (byteCells_one [o]) (by unfold maxLen; omega) (by omega) (by simp; omega) ?_; intro v' w2 hown' hgrow _)
              have R := own_after (r := [o]) hbf hsz hOf hown' rfl hgrow
              clear hown' hgrow
              go_wp2
              go_roundg g
              case measure => omega
              case rel => exact ⟨j + 1, x + 1, _, by omega, by go_num, HRX, HLn, R.1, R.2⟩
      case rest =>
        obtain ⟨rfl, hOf, hbf⟩ := hcut
        obtain ⟨av, cv, rfl, hcv, hmv, hBv, _⟩ := hOf.form
        have hO6 := hO.later hbf
        have hb6 : Below w.heap.size w wc := hb.trans (hbf.mono hb.size)
        have hst := run_str (n := f.length) (c := cv) hBv rfl
        have hOSl : OS.length ≤ 65536 := by rw [HOS.out, List.length_map, List.length_take]; omega
        have hown6 : wc.ownsRow w.heap.size 9 1 u4 OS.length (strCellsOf OS) := hO6
        have hsz6 := hb6.size
        have hFl : n = i + (field f).length + rest.length := by
          cases hq : needs f with
          | true =>
            have h1 := (HQ.out hq).len
            have h2 : (field f).length = (dbl f).length + 2 := by rw [field, hq]; simp
            omega
          | false =>
            have h1 := (HU.out hq).len
            have h2 : (field f).length = f.length := by rw [field, hq]; rfl
            omega
        have HE : Hid (∀ r, rest = 44 :: r → B.getD (i + (field f).length) 0 = 44) := by
          intro r hr
          cases hq : needs f with
          | true =>
            have h1 := (HQ.out hq).qr r hr
            have h2 : (field f).length = (dbl f).length + 2 := by rw [field, hq]; simp
            rw [← h1, h2]
            congr 1; omega
          | false =>
            have h1 := (HU.out hq).ur r hr
            have h2 : (field f).length = f.length := by rw [field, hq]; rfl
            rw [← h1, h2]
        have HNX2 : Hid (OS ++ [mk f] = (fs.take (k + 1)).map mk) := by show _ = _; rw [HNX.out f rfl, HOS.out]
        obtain ⟨ao, co, e4, hcao, hmao, _⟩ := hO6.form
        subst e4
        generalize (field f).length = F at *
        clear HQ HU hB5 hb hbf hO hOf HNX hcv hmv hBv
        have hmk : (⟨f.toArray⟩ : ByteArray) = mk f := rfl
        rw [hmk] at hst
        clear hmk
        rcases HREST.out with ⟨h1, h2⟩ | ⟨r, h1, h2⟩
        · have hr0 : rest.length = 0 := by rw [h1]; rfl
          have hiF : (((i : Int) + (F : Int)) == (n : Int)) = true := beq_iff_eq.2 (by omega)
          have HK : Hid (OS ++ [mk f] = fs.map mk) := by show _ = _; rw [HNX2.out, List.take_of_length_le (by omega)]
          subst h2
          clear hr0 hFl h1 HE HREST
          go_wp2_with (at_builtin; refine wpList_append_own _ rfl (.tmp 104) (.tmp 107) 35 rfl w.heap.size 9 i9 (.string ⟨#[]⟩) 1 16 Try.underlying35 hi9 hz90 hz91 hz92 rfl (by decide) (.slice ao OS.length co) OS.length (strCellsOf OS) rfl (hown6.alloc _) ⟨wc.heap.size, 0, none⟩ 1 1 [.string (mk f)] rfl rfl (one_new _ _ _) (strCellsOf_one [mk f]) (by unfold maxLen; omega) (by omega) (by simp; omega) ?_; intro v' w2 hown' hgrow _)
          go_ret2
          have R := strs_after (r := [mk f]) hb6 hsz6 hO6 hown' rfl hgrow
          have R1 := R.1
          rw [HK.out] at R1
          obtain ⟨a', c', e', _, _, hS'⟩ := R1.form
          rw [List.length_map] at e'
          exact ⟨a', c', by rw [← e']; rfl, hS', R.2⟩
        · have hrl : rest.length = r.length + 1 := by rw [h1]; rfl
          have hiF : (((i : Int) + (F : Int)) == (n : Int)) = false := beq_eq_false_iff_ne.2 (by omega)
          have hiF2 : (i : Int) + (F : Int) < (n : Int) := by omega
          obtain ⟨b, off, rfl, hbl, hc⟩ := hBw.at (i + F) (by omega)
          have hcF := hc (i + F) (by omega)
          rw [HE.out r h1, show (((44 : UInt8).toNat : Nat) : Int) = 44 from rfl] at hcF
          have HCF : Hid (∀ w2, Below w.heap.size w w2 → w2.cell? ⟨b, off + (i + F), none⟩ = some (.int .u8 44)) := fun w2 hb2 => by rw [hb2.cell (p := ⟨b, off + (i + F), none⟩) hbl]; exact hcF
          obtain ⟨g, rfl⟩ : ∃ g, gk = g + 1 := ⟨gk - 1, by omega⟩
          clear hrl hFl h1 h2 HE HREST hc hcF
          go_wp2_with (at_builtin; refine wpList_append_own _ rfl (.tmp 104) (.tmp 107) 35 rfl w.heap.size 9 i9 (.string ⟨#[]⟩) 1 16 Try.underlying35 hi9 hz90 hz91 hz92 rfl (by decide) (.slice ao OS.length co) OS.length (strCellsOf OS) rfl (hown6.alloc _) ⟨wc.heap.size, 0, none⟩ 1 1 [.string (mk f)] rfl rfl (one_new _ _ _) (strCellsOf_one [mk f]) (by unfold maxLen; omega) (by omega) (by simp; omega) ?_; intro v' w2 hown' hgrow _; have R := strs_after (r := [mk f]) hb6 hsz6 hO6 hown' rfl hgrow; have hcw := HCF.out w2 R.2; clear hown' hgrow)
          go_roundg g
          case measure => omega
          case rel => exact ⟨k + 1, i + F + 1, _, by omega, by go_num, by show _ = _; rw [HPN.out], HNX2, R.1, R.2⟩
end Go.Proofs.Qxb6603138a
