import Derived.Test.Qxb6602670aStuff
import Derived.Deep.Cut
import Derived.Deep.CutRange
import Derived.Deep.DeepCutAuto
import Derived.Laws.CopyOwn
namespace Go.Proofs.Qxb6602670a
open Go.RowKit

theorem zzstuffed_calls (base : Nat) (v : Value) (d : List Nat) (a : Option Addr) (l : List Nat) (len cap : Nat) (w : World) (hlen : l.length = len)
    (hown : w.ownsRow base 5 1 v d.length (B8 d)) (hB : BytesAt w a l) (hap : ∀ x, a = some x → l ≠ [] → x.block < base) (hbase : base ≤ w.heap.size) (hl : len ≤ 1048576) (hnb : d.length ≤ 1048576) :
    Calls Try.prog 13 #[v, .slice a len cap] w fun e w' => ∃ v', e = .returned v' ∧ Owns w' base v' (d ++ stuff l) ∧ Below base w w' := by
  go_enter Try.func13, Try.ntmps13
  go_wp2_with fail
  refine (stuffed_calls base v d a l len cap w hlen hown hB hap hbase hl hnb).mono ?_
  rintro e w' ⟨v', rfl, ho, hb⟩
  go_wp2
  go_ret
  exact ⟨_, rfl, ho, hb⟩

/-- The block of an owned slice, whole. -/
theorem owned_block {w : World} {base g n : Nat} {xs : List Value} (h : w.ownsRow base 5 1 (.slice (some ⟨g, 0, none⟩) n n) n xs) :
    ∃ cur : List Value, w.heap[g]? = some (.cells cur.toArray 5 (0, 0)) ∧ cur.length = n := by
  rcases h.2 with ⟨h', _⟩ | ⟨g', cap', cur, h', _, hg, _, _, hs, _⟩
  · simp at h'
  · simp only [Value.slice.injEq, Option.some.injEq, Addr.mk.injEq, and_true, true_and] at h'
    obtain ⟨rfl, rfl⟩ := h'
    exact ⟨cur.toList, by simpa using hg, by simpa using hs⟩
theorem copy_src {w : World} {x : Addr} {l : List Nat} (h : BytesAt w (some x) l) (hp : 0 < l.length) :
    ∃ ad, some x = some ad ∧ ∀ j v, (B8 l)[j]? = some v → w.cell? (ad.add j) = some v := by
  obtain ⟨b, off, e, _, hc⟩ := h.at 0 hp
  obtain rfl : x = ⟨b, off, none⟩ := by simpa using e
  refine ⟨_, rfl, fun j v hv => ?_⟩
  have hj : j < l.length := by have := (List.getElem?_eq_some_iff.1 hv).1; rwa [B8_length] at this
  have hadd : (⟨b, off, none⟩ : Addr).add j = ⟨b, off + j, none⟩ := by unfold Addr.add; split <;> simp_all
  rw [hadd, hc j hj, ← hv, B8_get l j hj]
theorem run_copy_bytes (x : Addr) (l : List Nat) (g n cap : Nat) (w0 w : World) {xs : List Value} (hl : l.length = n) (h : w.ownsRow w0.heap.size 5 1 (.slice (some ⟨g, 0, none⟩) n n) n xs) (hB : BytesAt w (some x) l)
    (hb : Below w0.heap.size w0 w) (hg : w0.heap.size ≤ g) :
    ∃ w2, (Builtin.copy_ #[30, 30] 3 #[.slice (some ⟨g, 0, none⟩) n n, .slice (some x) n cap]).run Try.prog w = .ok (goInt n) w2 ∧ BytesAt w2 (some ⟨g, 0, none⟩) l ∧ Below w0.heap.size w0 w2 := by
  obtain ⟨cur, hcg, hcl⟩ := owned_block h
  by_cases h0 : 0 < l.length
  · obtain ⟨ad, e, hsrc⟩ := copy_src hB h0
    obtain rfl : x = ad := by simpa using e
    have hrun := run_copy_row (P := Try.prog) w 30 30 3 5 g 0 n n x n cap cur.toArray 5 (B8 l) Try.underlying30 (by kernel_rfl) hcg (by rw [B8_length, hl]; simp) hsrc (by rw [B8_length]; simp; omega) (B8_one l)
    rw [B8_length, hl] at hrun
    refine ⟨_, hrun, ?_, below_setRow hb g hg _⟩
    have hheap := setRow_heap w g _ (List.take 0 cur.toArray.toList ++ B8 l ++ List.drop (0 + n) cur.toArray.toList).toArray 5 (0, 0) hcg
    have e2 : List.take 0 cur.toArray.toList ++ B8 l ++ List.drop (0 + n) cur.toArray.toList = B8 l := by
      rw [List.take_zero, List.nil_append, List.drop_of_length_le (by simp; omega), List.append_nil]
    rw [e2] at hheap ⊢
    refine ⟨hB.1, .inr ⟨g, 0, rfl, (Array.getElem?_eq_some_iff.1 hheap).1, fun j hj => ?_⟩⟩
    rw [Nat.zero_add, cell_of_row _ _ j _ 5 (0, 0) hheap, ← B8_get l j hj]
    simp
  · obtain rfl : l = [] := List.eq_nil_of_length_eq_zero (by omega)
    obtain rfl : n = 0 := by simpa using hl.symm
    exact ⟨w, run_copy_none (P := Try.prog) w 30 30 3 5 _ _ 0 0 0 cap Try.underlying30 (by kernel_rfl) rfl, ⟨hB.1, .inl rfl⟩, hb⟩

theorem BytesAt.left {w : World} {a : Option Addr} {x y : List Nat} (h : BytesAt w a (x ++ y)) : BytesAt w a x := by
  refine ⟨fun o ho => h.1 o (List.mem_append_left _ ho), ?_⟩
  rcases h.2 with e | ⟨b, off, e, hl, hc⟩
  · exact .inl (List.append_eq_nil_iff.1 e).1
  · refine .inr ⟨b, off, e, hl, fun j hj => ?_⟩
    rw [hc j (by rw [List.length_append]; omega)]
    simp [List.getD_eq_getElem?_getD, List.getElem?_append, hj]
theorem BytesAt.right {w : World} {b off : Nat} {x y : List Nat} (h : BytesAt w (some ⟨b, off, none⟩) (x ++ y)) (n : Nat) (hn : x.length = n) : BytesAt w (some ⟨b, off + n, none⟩) y := by
  subst hn
  refine ⟨fun o ho => h.1 o (List.mem_append_right _ ho), ?_⟩
  rcases h.2 with e | ⟨b', off', e, hl, hc⟩
  · exact .inl (List.append_eq_nil_iff.1 e).2
  · simp only [Option.some.injEq, Addr.mk.injEq, and_true] at e
    obtain ⟨rfl, rfl⟩ := e
    refine .inr ⟨b, off + x.length, rfl, hl, fun j hj => ?_⟩
    rw [Nat.add_assoc, hc (x.length + j) (by rw [List.length_append]; omega)]
    have hnl : ¬ x.length + j < x.length := by omega
    simp [List.getD_eq_getElem?_getD, List.getElem?_append, hnl]

theorem BytesAt.slide {w : World} {a : Option Addr} {x y : List Nat} (h : BytesAt w a (x ++ y)) : BytesAt w (Option.map (fun p => p.add x.length) a) y := by
  rcases h.2 with e | ⟨b, off, e, _, _⟩
  · exact ⟨fun o ho => h.1 o (List.mem_append_right _ ho), .inl (List.append_eq_nil_iff.1 e).2⟩
  · subst e
    have hadd : (⟨b, off, none⟩ : Addr).add x.length = ⟨b, off + x.length, none⟩ := by unfold Addr.add; split <;> simp_all
    simp only [Option.map_some, hadd]
    exact h.right _ rfl

theorem below_draws {B : Nat} {a w : World} (h : Below B a w) (n : Nat) : Below B a (w.drewN n) := ⟨h.os, h.tape, h.output, h.size, h.block⟩

/-! ### Where an octet's stuffing lies -/
theorem stuff_split (l : List Nat) (j : Nat) (h : j < l.length) : stuff l = stuff (l.take j) ++ (one (l.getD j 0) ++ stuff (l.drop (j + 1))) := by
  have e : l = l.take (j + 1) ++ l.drop (j + 1) := (List.take_append_drop _ _).symm
  have e2 : stuff l = stuff (l.take (j + 1) ++ l.drop (j + 1)) := by rw [← e]
  rw [e2, stuff_append, stuff_take l j h, List.append_assoc]
theorem stuff_at (l : List Nat) (j : Nat) (h : j < l.length) (p : Nat) (hp : p < (one (l.getD j 0)).length) :
    (stuff l).getD ((stuff (l.take j)).length + p) 0 = (one (l.getD j 0)).getD p 0 := by
  rw [stuff_split l j h]
  have hnl : ¬ (stuff (l.take j)).length + p < (stuff (l.take j)).length := by omega
  simp only [List.getD_eq_getElem?_getD, List.getElem?_append, if_neg hnl, Nat.add_sub_cancel_left]
  rw [if_pos (by simpa [List.getD_eq_getElem?_getD] using hp)]
theorem stuff_room (l : List Nat) (j : Nat) (h : j < l.length) : (stuff (l.take j)).length + (one (l.getD j 0)).length ≤ (stuff l).length := by
  rw [stuff_split l j h, List.length_append, List.length_append]
  omega

/-! ### How many must be escaped -/
def cnt (l : List Nat) : Nat := (l.filter esc).length
theorem cnt_le (l : List Nat) : cnt l ≤ l.length := List.length_filter_le _ _
theorem cnt_take (l : List Nat) (k : Nat) (h : k < l.length) : cnt (l.take (k + 1)) = cnt (l.take k) + if esc (l.getD k 0) then 1 else 0 := by
  rw [List.take_succ_eq_append_getElem h]
  unfold cnt
  rw [List.filter_append, List.length_append]
  simp only [List.getD_eq_getElem?_getD, List.getElem?_eq_getElem h, Option.getD_some]
  cases he : esc l[k] <;> simp [he]
theorem stuff_cnt (l : List Nat) : (stuff l).length = l.length + cnt l := by
  induction l with
  | nil => rfl
  | cons o l ih =>
    have e : stuff (o :: l) = one o ++ stuff l := by simp [stuff]
    rw [e, List.length_append, ih, List.length_cons]
    unfold cnt one
    cases he : esc o <;> simp [he] <;> omega

set_option maxHeartbeats 4000000 in
set_option maxRecDepth 100000 in
theorem exact_walk (a : Option Addr) (d : List Nat) (dlen dcap : Nat) (b : Option Addr) (l : List Nat) (blen bcap : Nat) (w : World)
    (hd : d.length = dlen) (hdc : dlen ≤ dcap) (hdm : dcap ≤ maxLen) (hA : BytesAt w a d) (hl : l.length = blen) (hbc : blen ≤ bcap) (hbm : bcap ≤ maxLen) (hB : BytesAt w b l) :
    Calls Try.prog 6 #[.slice a dlen dcap, .slice b blen bcap] w fun e w' => e = .returned (.bool true) ∧ Below w.heap.size w w' := by
  unfold maxLen at hdm hbm
  have hdm2 : dlen ≤ 9223372036854775807 := by omega
  have hbm2 : blen ≤ 9223372036854775807 := by omega
  by_cases hz : dlen + blen ≤ 1048576
  · by_cases h1 : (524288 : Int) < (dlen : Int)
    · go_enter Try.func6, Try.ntmps6
      go_wp2_with (go_at_call 12; refine (zz12_yes _ _ _ _ _ _ _ hz).mono ?_; rintro e w' ⟨rfl, rfl⟩)
      go_ret
      exact ⟨rfl, Below.refl _ _⟩
    · by_cases h2 : (524288 : Int) < (blen : Int)
      · go_enter Try.func6, Try.ntmps6
        go_wp2_with (go_at_call 12; refine (zz12_yes _ _ _ _ _ _ _ hz).mono ?_; rintro e w' ⟨rfl, rfl⟩)
        go_ret
        exact ⟨rfl, Below.refl _ _⟩
      · have hneq := fun wx => run_neq_slice_nil_any (P := Try.prog) wx 30 5 b blen bcap 0 0 Try.underlying30
        have h1b : decide ((524288 : Int) < (dlen : Int)) = false := decide_eq_false h1
        have h2b : decide ((524288 : Int) < (blen : Int)) = false := decide_eq_false h2
        obtain ⟨i0, hi, hz0, hz1, hz2⟩ := info_parts info5
        go_enter Try.func6, Try.ntmps6
        go_upto_if 24 with (go_at_call 12; refine (zz12_yes _ _ _ _ _ _ _ hz).mono ?_; rintro e w' ⟨rfl, hw⟩; have hw2 := hw.symm; subst hw2)
        go_cut [1, 5] (fun s1 _s5 wx => ∃ b1 c1, s1 = .slice b1 blen c1 ∧ BytesAt wx b1 l ∧ Below w.heap.size w wx)
        case first =>
          cases b with
          | none =>
            go_wp2
            go_meet
            case rel => exact ⟨_, _, rfl, hB, Below.refl _ _⟩
          | some x =>
            go_wp2_with (at_make; refine wpList_make_full _ rfl _ _ 30 rfl w.heap.size 5 i0 (.int .u8 0) 1 Try.underlying30 hi hz0 hz1 _ _ _ _ blen rfl rfl rfl rfl (by rw [hz2]; omega) (by unfold maxLen; omega) (Nat.le_refl _) ?_; intro w1 hown hgrow)
            have hbw : Below w.heap.size w w1 := (Below.refl _ _).grown hgrow (Nat.le_refl _) (fun k hk => by simp at hk)
            obtain ⟨w2, hrun, hB2, hb2⟩ := run_copy_bytes x l w.heap.size blen bcap w w1 hl hown (hB.below hbw) hbw (Nat.le_refl _)
            rw [hrun]
            simp only [Result.andThen]
            rw [Oper.upon_value]
            clear hown hgrow
            go_wp2
            go_meet
            case rel => exact ⟨_, _, rfl, hB2, hb2⟩
        case rest =>
          obtain ⟨b1, c1, rfl, hB1, hb1⟩ := hcut
          clear hneq
          have hA1 := hA.below hb1
          have hap : ∀ x, b1 = some x → l ≠ [] → x.block < wc.heap.size := by
            intro x hx hne
            rcases hB1.2 with h | ⟨b, off, e, hlt, _⟩
            · exact absurd h hne
            · rw [e] at hx; simp only [Option.some.injEq] at hx; subst hx; exact hlt
          go_wp2_with fail
          refine (clone_calls a d dlen dcap wc hd hA1 (by omega)).mono ?_
          rintro e w2 ⟨v, rfl, hown, hb2⟩
          go_wp2_with fail
          subst hd
          refine (zzstuffed_calls wc.heap.size v d b1 l blen c1 w2 hl hown (hB1.below hb2) hap hb2.size (by omega) (by omega)).mono ?_
          rintro e w3 ⟨v3, rfl, hown3, hb3⟩
          have hdl : ∀ o ∈ d ++ stuff l, o < 256 := fun o ho => (List.mem_append.1 ho).elim (hA.1 o) (stuff_lt l hB.1 o)
          obtain ⟨a3, c3, rfl, hc3, hm3, hB3, hnil3, _⟩ := owned_bytes hown3 hdl
          have hN : (d ++ stuff l).length = d.length + (stuff l).length := List.length_append
          have hb03 : Below wc.heap.size wc w3 := hb2.trans hb3
          have hBd := hB3.left
          have hAd := hA1.below hb03
          have hbw3 : Below w.heap.size w w3 := hb1.trans (hb03.mono hb1.size)
          have hBl := hB1.below hb03
          go_wp2_with fail
          refine (equal_calls a3 a d d.length c3 dcap w3 rfl hBd hAd (by omega)).mono ?_
          rintro e w4 ⟨rfl, nq, hw4⟩
          have hbw4 : Below w.heap.size w w4 := by rw [hw4]; exact ⟨hbw3.os, hbw3.tape, hbw3.output, hbw3.size, hbw3.block⟩
          have hBl4 : BytesAt w4 b1 l := by rw [hw4]; exact hBl
          have hB4 : BytesAt w4 a3 (d ++ stuff l) := by rw [hw4]; exact hB3
          clear hw4 hBd hAd hB3 hBl hb03 hbw3 hown3 hb3 hb2 hown hA1 hap hB1 hb1 hdl
          have hsl := stuff_cnt l
          have hcl := cnt_le l
          go_wp2_with fail
          go_loopg [8, 7] blen (fun g i v wx => ∃ k : Nat, k + g = blen ∧ i = .int .i64 k ∧ v = .int .i64 (cnt (l.take k) : Nat) ∧ wx = w4)
          case atStart => exact ⟨0, by omega, rfl, rfl, rfl⟩
          case round =>
            obtain ⟨k, hk, rfl, rfl, rfl⟩ := hrel
            cases gk with
            | zero =>
              obtain rfl : k = blen := by omega
              have hlt : ¬ ((k : Int) < (k : Int)) := by omega
              rw [List.take_of_length_le (by omega)]
              go_upto_region 22 with fail
              go_cut [6, 9] (fun _s6 s9 wx => ∃ t tc, s9 = .slice t (stuff l).length tc ∧ BytesAt wx t (stuff l) ∧ wx = wr)
              case first =>
                by_cases hc : c3 = d.length
                · have hnl : stuff l = [] := List.eq_nil_of_length_eq_zero (by omega)
                  have HT : Hid (BytesAt wr a3 (stuff l)) := by rw [hnl]; exact ⟨fun o ho => by simp at ho, .inl rfl⟩
                  clear hnl
                  go_wp2
                  go_meet
                  case rel => exact ⟨_, _, by rw [hsl, hl], HT.out, rfl⟩
                · have hc' : ¬ ((c3 : Int) = (d.length : Int)) := by omega
                  have HT : Hid (BytesAt wr (Option.map (fun x => x.add d.length) a3) (stuff l)) := hB4.slide
                  go_wp2
                  go_meet
                  case rel => exact ⟨_, _, by rw [hsl, hl], HT.out, rfl⟩
              case rest =>
                obtain ⟨t, tc, rfl, hT, hwc⟩ := hcut
                subst hwc
                rw [hl] at hsl hcl
                generalize hNN : (stuff l).length = N at *
                have HNN : Hid ((stuff l).length = N) := hNN
                clear hB4 hc3 hm3 hN hNN h1b h2b hA hB hdm hbm
                have hNk : ((N : Int) != (k : Int) + (cnt l : Nat)) = false := by simp; omega
                go_wp2
                go_loopg [10, 11, 12] k (fun g s10 s11 _s12 wx => ∃ j n i : Nat, j + g = k ∧ s11 = .int .i64 j ∧ s10 = .int .i64 (i : Nat) ∧ Hid (i = (stuff (l.take j)).length) ∧ wx = wc.drewN n)
                case atStart => exact ⟨0, 0, 0, by omega, rfl, rfl, rfl, rfl⟩
                case round =>
                  obtain ⟨j, n, i, hj, rfl, rfl, HI, rfl⟩ := hrel
                  cases gk with
                  | zero =>
                    obtain rfl : j = k := by omega
                    obtain rfl : i = N := by rw [HI.out, List.take_of_length_le (by omega), HNN.out]
                    have hlt : ¬ ((i : Int) < (i : Int)) := by omega
                    have hjj : ((j : Int) == (j : Int)) = true := by simp
                    go_wp2
                    go_ret
                    exact ⟨rfl, below_draws hbw4 n⟩
                  | succ g =>
                    have hjk : (j : Int) < (k : Int) := by omega
                    have hjk2 : ¬ ((k : Int) ≤ (j : Int)) := by omega
                    have ho := hBl4.lt j
                    obtain ⟨bb, boff, rfl, _, hcb⟩ := hBl4.at j (by omega)
                    have hcj := hcb j (by omega)
                    have HG := stuff_at l j (by omega)
                    have HL : Hid (∀ p, (one (l.getD j 0)).length = p → i + p = (stuff (l.take (j + 1))).length ∧ i + p ≤ N) := by
                      intro p hp
                      rw [HI.out, stuff_take l j (by omega), List.length_append, hp]
                      refine ⟨rfl, ?_⟩
                      have := stuff_room l j (by omega)
                      rw [hp, HNN.out] at this
                      exact this
                    have HGI : Hid (∀ p, p < (one (l.getD j 0)).length → (stuff l).getD (i + p) 0 = (one (l.getD j 0)).getD p 0) := by rw [HI.out]; exact HG
                    clear HG hcb
                    generalize l.getD j 0 = o at *
                    by_cases he : esc o = true
                    · have hone : one o = [125, o ^^^ 32] := by simp [one, he]
                      have hL := HL.out 2 (by rw [hone]; rfl)
                      have hg0 := HGI.out 0 (by rw [hone]; simp)
                      have hg1 := HGI.out 1 (by rw [hone]; simp)
                      rw [hone] at hg0 hg1
                      have hT' : BytesAt wc t (stuff l) := hT
                      obtain ⟨tb, toff, rfl, _, hct⟩ := hT'.at i (by rw [HNN.out]; omega)
                      have hc0 := hct i (by rw [HNN.out]; omega)
                      have hc1 := hct (i + 1) (by rw [HNN.out]; omega)
                      rw [Nat.add_zero] at hg0
                      rw [hg0] at hc0
                      rw [hg1] at hc1
                      have hback : bits BinOp.xor IntKind.u8 ((o ^^^ 32 : Nat) : Int) 32 = (o : Int) := by
                        rw [xor32 _ (Nat.xor_lt_two_pow (n := 8) (by omega) (by omega)), Nat.xor_assoc, Nat.xor_self, Nat.xor_zero]
                      have hiN : (i : Int) < (N : Int) := by omega
                      have hiN1 : (i : Int) + 1 < (N : Int) := by omega
                      have hiN2 : ¬ ((N : Int) ≤ (i : Int) + 1) := by omega
                      have hoo : ((o : Int) != (o : Int)) = false := by simp
                      have HR : Hid (i + 2 = (stuff (l.take (j + 1))).length) := hL.1
                      clear hg0 hg1 hL hct hT hone he HL HGI
                      simp only [List.getD_cons_zero, List.getD_cons_succ] at hc0 hc1
                      generalize o ^^^ 32 = y at *
                      go_wp2
                      go_quiet (fail)
                      go_wp2
                      go_roundg g
                      case measure => omega
                      case rel => exact ⟨j + 1, _, i + 2, by omega, by go_num, by go_num, HR, rfl⟩
                    · have hone : one o = [o] := by simp [one, he]
                      have hL := HL.out 1 (by rw [hone]; rfl)
                      have hg0 := HGI.out 0 (by rw [hone]; simp)
                      rw [hone] at hg0
                      have hT' : BytesAt wc t (stuff l) := hT
                      obtain ⟨tb, toff, rfl, _, hct⟩ := hT'.at i (by rw [HNN.out]; omega)
                      have hc0 := hct i (by rw [HNN.out]; omega)
                      rw [Nat.add_zero] at hg0
                      rw [hg0] at hc0
                      have hiN : (i : Int) < (N : Int) := by omega
                      have hoo : ((o : Int) != (o : Int)) = false := by simp
                      have HR : Hid (i + 1 = (stuff (l.take (j + 1))).length) := hL.1
                      have hne : ¬ o < 32 ∧ o ≠ 126 ∧ o ≠ 125 := by
                        simp only [esc, Bool.or_eq_true, decide_eq_true_eq, beq_iff_eq, not_or] at he
                        exact ⟨he.1.1, he.1.2, he.2⟩
                      have e1 : ¬ ((o : Int) < 32) := by omega
                      have e2 : ((o : Int) == 126) = false := by simp; omega
                      have e3 : ((o : Int) == 125) = false := by simp; omega
                      clear hg0 hL hct hT hone he HL HGI hne
                      simp only [List.getD_cons_zero] at hc0
                      go_wp2
                      go_roundg g
                      case measure => omega
                      case rel => exact ⟨j + 1, _, i + 1, by omega, by go_num, by go_num, HR, rfl⟩
            | succ g =>
              have hlt : (k : Int) < (blen : Int) := by omega
              obtain ⟨bb, off, rfl, hbl, hc⟩ := hBl4.at k (by omega)
              have hck := hc k (by omega)
              have hstep := cnt_take l k (by omega)
              have hcb := cnt_le (l.take k)
              have hcb2 : (l.take k).length ≤ blen := by rw [List.length_take]; omega
              have hcb3 : cnt (l.take k) ≤ 524288 := by omega
              clear hcb hcb2 hc
              have HS : Hid (cnt (l.take (k + 1)) = cnt (l.take k) + if esc (l.getD k 0) then 1 else 0) := hstep
              clear hstep
              generalize l.getD k 0 = o at *
              generalize cnt (l.take k) = m at *
              cases he : esc o with
              | true =>
                rw [he] at HS
                go_wp2_with (go_at_call 16; refine (must_calls o _).mono ?_; rintro e w' ⟨rfl, hw⟩; have hw2 := hw.symm; subst hw2)
                go_roundg g
                case measure => omega
                case rel => exact ⟨k + 1, by omega, by go_num, by rw [HS.out]; go_num, rfl⟩
              | false =>
                rw [he] at HS
                go_wp2_with (go_at_call 16; refine (must_calls o _).mono ?_; rintro e w' ⟨rfl, hw⟩; have hw2 := hw.symm; subst hw2)
                go_roundg g
                case measure => omega
                case rel => exact ⟨k + 1, by omega, by go_num, by rw [HS.out]; go_num, rfl⟩
  · go_enter Try.func6, Try.ntmps6
    go_wp2_with (go_at_call 12; refine (zz12_any _ _ _ _ _ _ _ hdm2 hbm2 hz).mono ?_; rintro e w' ⟨rfl, rfl⟩)
    go_ret
    exact ⟨rfl, Below.refl _ _⟩
end Go.Proofs.Qxb6602670a
