import Derived.Test.Qxb6602670aDec
import Derived.Deep.Cut
import Derived.Deep.CutRange
import Derived.Deep.DeepCutAuto
namespace Go.Proofs.Qxb6602670a
open Go.RowKit

theorem zz18_yes (a b : Option Addr) (len cap len' cap' : Nat) (p q : Bool) (n : Int) (w : World) (h : len + len' ≤ 1048576) :
    Calls Try.prog 18 #[.slice a len cap, .bool p, .bool q, .int .i64 n, .slice b len' cap'] w fun e w' => e = .returned (.bool true) ∧ w' = w := by
  have h1 : ¬ ((1048576 : Int) < (len : Int)) := by omega
  have h2 : ¬ ((1048576 : Int) < (len' : Int)) := by omega
  have h3 : ¬ ((1048576 : Int) < (len : Int) + (len' : Int)) := by omega
  go_enter Try.func18, Try.ntmps18
  go_wp2
  go_ret
  exact ⟨rfl, rfl⟩
theorem zz18_any (a b : Option Addr) (len cap len' cap' : Nat) (p q : Bool) (n : Int) (w : World) (h : len ≤ 9223372036854775807) (h' : len' ≤ 9223372036854775807) (hn : ¬ len + len' ≤ 1048576) :
    Calls Try.prog 18 #[.slice a len cap, .bool p, .bool q, .int .i64 n, .slice b len' cap'] w fun e w' => e = .returned (.bool false) ∧ w' = w := by
  by_cases h1 : (1048576 : Int) < (len : Int)
  · go_enter Try.func18, Try.ntmps18
    go_wp2
    go_ret
    exact ⟨rfl, rfl⟩
  · by_cases h2 : (1048576 : Int) < (len' : Int)
    · go_enter Try.func18, Try.ntmps18
      go_wp2
      go_ret
      exact ⟨rfl, rfl⟩
    · have h3 : (1048576 : Int) < (len : Int) + (len' : Int) := by omega
      go_enter Try.func18, Try.ntmps18
      go_wp2
      go_ret
      exact ⟨rfl, rfl⟩

theorem BytesAt.left' {w : World} {a : Option Addr} {x y : List Nat} (h : BytesAt w a (x ++ y)) : BytesAt w a x := by
  refine ⟨fun o ho => h.1 o (List.mem_append_left _ ho), ?_⟩
  rcases h.2 with e | ⟨b, off, e, hl, hc⟩
  · exact .inl (List.append_eq_nil_iff.1 e).1
  · refine .inr ⟨b, off, e, hl, fun j hj => ?_⟩
    rw [hc j (by rw [List.length_append]; omega)]
    simp [List.getD_eq_getElem?_getD, List.getElem?_append, hj]
theorem below_drw {B : Nat} {a w : World} (h : Below B a w) (n : Nat) : Below B a (w.drewN n) := ⟨h.os, h.tape, h.output, h.size, h.block⟩

set_option maxHeartbeats 4000000 in
set_option maxRecDepth 100000 in
theorem dec_walk (a : Option Addr) (d : List Nat) (dlen dcap : Nat) (ee ov : Bool) (dr : Int) (b : Option Addr) (l : List Nat) (blen bcap : Nat) (w : World)
    (hd : d.length = dlen) (hdc : dlen ≤ dcap) (hdm : dcap ≤ maxLen) (hA : BytesAt w a d) (hl : l.length = blen) (hbc : blen ≤ bcap) (hbm : bcap ≤ maxLen) (hB : BytesAt w b l) :
    Calls Try.prog 8 #[.slice a dlen dcap, .bool ee, .bool ov, .int .i64 dr, .slice b blen bcap] w fun e w' => e = .returned (.bool true) ∧ Below w.heap.size w w' := by
  unfold maxLen at hdm hbm
  have hdm2 : dlen ≤ 9223372036854775807 := by omega
  have hbm2 : blen ≤ 9223372036854775807 := by omega
  by_cases hz : dlen + blen ≤ 1048576
  · by_cases h1 : (524288 : Int) < (dlen : Int)
    · go_enter Try.func8, Try.ntmps8
      go_wp2_with (go_at_call 18; refine (zz18_yes _ _ _ _ _ _ _ _ _ _ hz).mono ?_; rintro e w' ⟨rfl, rfl⟩)
      go_ret
      exact ⟨rfl, Below.refl _ _⟩
    · by_cases h2 : (524288 : Int) < (blen : Int)
      · go_enter Try.func8, Try.ntmps8
        go_wp2_with (go_at_call 18; refine (zz18_yes _ _ _ _ _ _ _ _ _ _ hz).mono ?_; rintro e w' ⟨rfl, rfl⟩)
        go_ret
        exact ⟨rfl, Below.refl _ _⟩
      · have h1b : decide ((524288 : Int) < (dlen : Int)) = false := decide_eq_false h1
        have h2b : decide ((524288 : Int) < (blen : Int)) = false := decide_eq_false h2
        subst hd
        clear hdc hdm hbc hbm
        go_enter Try.func8, Try.ntmps8
        go_wp2_with (go_at_call 18; refine (zz18_yes _ _ _ _ _ _ _ _ _ _ hz).mono ?_; rintro e w' ⟨rfl, hw⟩; have hw2 := hw.symm; subst hw2)
        refine (clone_calls a d d.length dcap w rfl hA (by omega)).mono ?_
        rintro e w2 ⟨v, rfl, hown, hb2⟩
        obtain ⟨av, cv, rfl, _⟩ := owned_bytes hown hA.1
        go_wp2_with fail
        refine (new_calls (.slice av d.length cv) ⟨_, _, _, rfl⟩ ee ov dr w2).mono ?_
        rintro e w3 ⟨rfl, hw3⟩
        have hd3 : DecAt w3 w2.heap.size (.slice av d.length cv) ee ov dr := by rw [hw3]; exact heap_alloc_last w2 _
        have ho3 : Owns w3 w.heap.size (.slice av d.length cv) d := by rw [hw3]; exact hown.alloc _
        have hb3 : Below w.heap.size w w3 := by rw [hw3]; exact hb2.alloc hb2.size _
        have hbD : w.heap.size ≤ w2.heap.size := hb2.size
        generalize w2.heap.size = D at *
        clear hw3 hown hb2
        go_wp2_with fail
        go_loopg [12] blen (fun g i wx => ∃ (k : Nat) (v : Value) (L : List Nat), k + g = blen ∧ i = .int .i64 k ∧ Hid (L = d ++ l.take (min k (4096 - d.length))) ∧ Owns wx w.heap.size v L ∧ DecAt wx D v ee (ov || decide (4096 - d.length < k)) dr ∧ Below w.heap.size w wx)
        case atStart => exact ⟨0, _, d, by omega, rfl, by show d = _; simp, ho3, by simpa using hd3, hb3⟩
        case round =>
          clear hd3 ho3 hb3
          obtain ⟨k, v, L, hk, rfl, HL, hO, hD, hb⟩ := hrel
          cases gk with
          | zero =>
            obtain rfl : k = blen := by omega
            have hlt : ¬ ((k : Int) < (k : Int)) := by omega
            have hLt : ∀ x ∈ L, x < 256 := by
              rw [HL.out]; intro x hx
              rcases List.mem_append.1 hx with hx | hx
              · exact hA.1 x hx
              · exact hB.1 x (List.mem_of_mem_take hx)
            obtain ⟨a3, c3, rfl, hc3, hm3, hB3, _⟩ := owned_bytes hO hLt
            have hA3 := hA.below hb
            have hBl := hB.below hb
            go_wp2_with fail
            refine (fields_calls D (.slice a3 L.length c3) ⟨_, _, _, rfl⟩ ee _ dr wr hD).mono ?_
            rintro e w4 ⟨rfl, nq, hw4⟩
            have hb4 : Below w.heap.size w w4 := by rw [hw4]; exact below_drw hb _
            have hA4 : BytesAt w4 a d := by rw [hw4]; exact hA3
            have hBl4 : BytesAt w4 b l := by rw [hw4]; exact hBl
            have hB4 : BytesAt w4 a3 L := by rw [hw4]; exact hB3
            clear hw4 hA3 hBl hB3 hb hO hD hLt hm3 hA hB
            obtain ⟨r, hr⟩ : ∃ r, r = 4096 - d.length := ⟨_, rfl⟩
            have Hr : Hid (r = 4096 - d.length) := hr
            rw [← hr] at HL ⊢
            obtain ⟨kk, hkk⟩ : ∃ kk, kk = min k r := ⟨_, rfl⟩
            have Hkk : Hid (kk = min k r) := hkk
            rw [← hkk] at HL
            have hLl : Hid (L.length = d.length + kk) := by
              show L.length = _
              rw [HL.out, List.length_append, List.length_take]; omega
            have hkr : kk ≤ r := by omega
            have hkb : kk ≤ k := by omega
            have hrb : r ≤ 4096 := by omega
            obtain ⟨ov2, hov2⟩ : ∃ ov2, ov2 = (ov || decide (r < k)) := ⟨_, rfl⟩
            rw [← hov2]
            have Hov : Hid (ov2 = (ov || decide (kk < k))) := by
              show ov2 = _
              rw [hov2]
              by_cases hc : r < k
              · rw [decide_eq_true hc, decide_eq_true (by omega)]
              · rw [decide_eq_false hc, decide_eq_false (by omega)]
            clear hr hkk hov2
            go_upto_if 62 with fail
            go_cut [17] (fun s17 wx => s17 = .int .i64 (r : Int) ∧ wx = w4)
            case first =>
              by_cases hdd : d.length ≤ 4096
              · have t1 : ¬ ((4096 : Int) - (d.length : Int) < 0) := by omega
                go_wp2
                go_meet
                case rel => exact ⟨by rw [Hr.out]; go_num, rfl⟩
              · have t1 : ((4096 : Int) - (d.length : Int) < 0) := by omega
                go_wp2
                go_meet
                case rel => exact ⟨by rw [Hr.out]; go_num, rfl⟩
            case rest =>
              obtain ⟨rfl, hwc⟩ := hcut
              subst hwc
              go_upto_if 67 with fail
              go_cut [18] (fun s18 wx => s18 = .int .i64 (kk : Int) ∧ wx = wc)
              case first =>
                by_cases hkk2 : r < k
                · have t1 : (r : Int) < (k : Int) := by omega
                  go_wp2
                  go_meet
                  case rel => exact ⟨by rw [Hkk.out]; go_num, rfl⟩
                · have t1 : ¬ ((r : Int) < (k : Int)) := by omega
                  go_wp2
                  go_meet
                  case rel => exact ⟨by rw [Hkk.out]; go_num, rfl⟩
              case rest =>
                obtain ⟨rfl, hwc2⟩ := hcut
                subst hwc2
                have hLl2 : (((L.length : Nat) : Int) != (d.length : Int) + (kk : Int)) = false := by rw [hLl.out]; simp
                have hLl3 : d.length ≤ L.length := by rw [hLl.out]; omega
                have hBd : BytesAt wc a3 d := by
                  have := hB4
                  rw [HL.out] at this
                  exact this.left'
                have hLk : ∀ i, i < kk → L.getD (d.length + i) 0 = l.getD i 0 := by
                  intro i hi
                  have h1 : ¬ d.length + i < d.length := by omega
                  rw [HL.out]
                  simp only [List.getD_eq_getElem?_getD, List.getElem?_append, if_neg h1, Nat.add_sub_cancel_left, List.getElem?_take, if_pos hi]
                have HLk : Hid (∀ i, i < kk → L.getD (d.length + i) 0 = l.getD i 0) := hLk
                clear hLk
                generalize hNN : L.length = N at *
                have HNN : Hid (L.length = N) := hNN
                clear hNN
                go_wp2_with fail
                refine (equal_calls a3 a d d.length c3 dcap wc rfl hBd hA4 (by omega)).mono ?_
                rintro e w5 ⟨rfl, nq5, hw5⟩
                have hb5 : Below w.heap.size w w5 := by rw [hw5]; exact below_drw hb4 _
                have hBl5 : BytesAt w5 b l := by rw [hw5]; exact hBl4
                have hB5 : BytesAt w5 a3 L := by rw [hw5]; exact hB4
                clear hw5 hBd hB4 hBl4 hb4 hA4
                go_wp2_with fail
                go_loopg [19] kk (fun g i wx => ∃ j n : Nat, j + g = kk ∧ i = .int .i64 j ∧ wx = w5.drewN n)
                case atStart => exact ⟨0, 0, by omega, rfl, rfl⟩
                case round =>
                  obtain ⟨j, n, hj, rfl, rfl⟩ := hrel
                  cases gk with
                  | zero =>
                    obtain rfl : j = kk := by omega
                    have hlt : ¬ ((j : Int) < (j : Int)) := by omega
                    have hdr : (dr == dr) = true := by simp
                    have hee : (ee == ee) = true := by simp
                    cases ov with
                    | true =>
                      have ho2 : ov2 = true := by rw [Hov.out]; simp
                      subst ho2
                      go_wp2
                      go_ret
                      exact ⟨rfl, below_drw hb5 _⟩
                    | false =>
                      by_cases hjk : j < k
                      · have ho2 : ov2 = true := by rw [Hov.out]; simp [hjk]
                        subst ho2
                        have hjk' : (j : Int) < (k : Int) := by omega
                        go_wp2
                        go_ret
                        exact ⟨rfl, below_drw hb5 _⟩
                      · have ho2 : ov2 = false := by rw [Hov.out]; simp; omega
                        subst ho2
                        have hjk' : ¬ ((j : Int) < (k : Int)) := by omega
                        go_wp2
                        go_ret
                        exact ⟨rfl, below_drw hb5 _⟩
                  | succ g =>
                    have hlt : (j : Int) < (kk : Int) := by omega
                    have hNd : N = d.length + kk := hLl.out
                    have hlt2 : (d.length : Int) + (j : Int) < (N : Int) := by omega
                    have hlt3 : (j : Int) < (k : Int) := by omega
                    obtain ⟨b1, off1, rfl, _, hc1⟩ := hB5.at (d.length + j) (by rw [HNN.out]; omega)
                    obtain ⟨b2, off2, rfl, _, hc2⟩ := hBl5.at j (by omega)
                    have t1 := hc1 (d.length + j) (by rw [HNN.out]; omega)
                    have t2 := hc2 j (by omega)
                    rw [HLk.out j (by omega)] at t1
                    clear hc1 hc2 hNd
                    generalize l.getD j 0 = o at *
                    have hoo : ((o : Int) != (o : Int)) = false := by simp
                    go_wp2
                    go_quiet (fail)
                    go_wp2
                    go_roundg g
                    case measure => omega
                    case rel => exact ⟨j + 1, _, by omega, by go_num, rfl⟩
          | succ g =>
            have hlt : (k : Int) < (blen : Int) := by omega
            obtain ⟨bb, boff, rfl, hbl, hc⟩ := hB.at k (by omega)
            have hck : wr.cell? ⟨bb, boff + k, none⟩ = some (.int .u8 ((l.getD k 0 : Nat) : Int)) := by
              rw [hb.cell (p := ⟨bb, boff + k, none⟩) hbl]; exact hc k (by omega)
            have ho := hB.lt k
            have hLt : ∀ x ∈ L, x < 256 := by
              rw [HL.out]; intro x hx
              rcases List.mem_append.1 hx with hx | hx
              · exact hA.1 x hx
              · exact hB.1 x (List.mem_of_mem_take hx)
            have hLlen : Hid (L.length = d.length + min k (4096 - d.length)) := by
              show L.length = _
              rw [HL.out, List.length_append, List.length_take]; omega
            by_cases hfull : 4096 - d.length ≤ k
            · have hL2 : 4096 ≤ L.length := by rw [hLlen.out]; omega
              have HL' : Hid (L = d ++ l.take (min (k + 1) (4096 - d.length))) := by
                show L = _
                rw [HL.out, show min (k + 1) (4096 - d.length) = min k (4096 - d.length) by omega]
              have hov : decide (4096 - d.length < k + 1) = true := decide_eq_true (by omega)
              go_wp2_with fail
              refine (zzadd_full D w.heap.size v L ee _ dr _ wr hD hO hLt hbD hL2).mono ?_
              rintro e w' ⟨rfl, hD', hO', hb'⟩
              clear hD hO hov hLt hLlen
              go_wp2
              go_roundg g
              case measure => omega
              case rel => exact ⟨k + 1, v, L, by omega, by go_num, HL', hO', by rw [show decide (4096 - d.length < k + 1) = true from decide_eq_true (by omega), Bool.or_true]; exact hD', hb.trans hb'⟩
            · have hL2 : L.length < 4096 := by rw [hLlen.out]; omega
              have HL' : Hid (L ++ [l.getD k 0] = d ++ l.take (min (k + 1) (4096 - d.length))) := by
                show _ = _
                rw [HL.out, show min (k + 1) (4096 - d.length) = k + 1 by omega, show min k (4096 - d.length) = k by omega, List.take_succ_eq_append_getElem (by omega), List.append_assoc]
                simp [List.getD_eq_getElem?_getD, show k < l.length by omega]
              go_wp2_with fail
              refine (zzadd_room D w.heap.size v L ee _ dr _ wr hD hO hLt ho hbD hb.size hL2).mono ?_
              rintro e w' ⟨rfl, v', hD', hO', hb'⟩
              clear hD hO hLt hLlen
              go_wp2
              go_roundg g
              case measure => omega
              case rel => exact ⟨k + 1, v', _, by omega, by go_num, HL', hO', by rw [show decide (4096 - d.length < k + 1) = decide (4096 - d.length < k) from by rw [decide_eq_false (by omega), decide_eq_false (by omega)]]; exact hD', hb.trans hb'⟩
  · go_enter Try.func8, Try.ntmps8
    go_wp2_with (go_at_call 18; refine (zz18_any _ _ _ _ _ _ _ _ _ _ hdm2 hbm2 hz).mono ?_; rintro e w' ⟨rfl, rfl⟩)
    go_ret
    exact ⟨rfl, Below.refl _ _⟩
end Go.Proofs.Qxb6602670a
