import Derived.Test.Qxb6603138aUnquote
namespace Go.Proofs.Qxb6603138a
open Go.RowKit

theorem zz16_yes (a : Option Addr) (len cap : Nat) (p : Bool) (s : ByteArray) (w : World) (h : len + s.size ≤ 1048576) :
    Calls Try.prog 16 #[.slice a len cap, .bool p, .string s] w fun e w' => e = .returned (.bool true) ∧ w' = w := by
  have h1 : ¬ ((1048576 : Int) < (len : Int)) := by omega
  have h2 : ¬ ((1048576 : Int) < (s.size : Int)) := by omega
  have h3 : ¬ ((1048576 : Int) < (len : Int) + (s.size : Int)) := by omega
  go_enter Try.func16, Try.ntmps16
  go_wp2
  go_ret
  exact ⟨rfl, rfl⟩
theorem zz16_any (a : Option Addr) (len cap : Nat) (p : Bool) (s : ByteArray) (w : World) (h : len ≤ 9223372036854775807) (h' : s.size ≤ 9223372036854775807) (hn : ¬ len + s.size ≤ 1048576) :
    Calls Try.prog 16 #[.slice a len cap, .bool p, .string s] w fun e w' => e = .returned (.bool false) ∧ w' = w := by
  by_cases h1 : (1048576 : Int) < (len : Int)
  · go_enter Try.func16, Try.ntmps16
    go_wp2
    go_ret
    exact ⟨rfl, rfl⟩
  · by_cases h2 : (1048576 : Int) < (s.size : Int)
    · go_enter Try.func16, Try.ntmps16
      go_wp2
      go_ret
      exact ⟨rfl, rfl⟩
    · have h3 : (1048576 : Int) < (len : Int) + (s.size : Int) := by omega
      go_enter Try.func16, Try.ntmps16
      go_wp2
      go_ret
      exact ⟨rfl, rfl⟩

theorem Owns.later {w w' : World} {base : Nat} {v : Value} {l : List UInt8} (h : Owns w base v l) (hb : Below w.heap.size w w') : Owns w' base v l := by
  refine ⟨h.1, ?_⟩
  rcases h.2 with h' | ⟨g, cap, cur, e, hbg, hg, r⟩
  · exact .inl h'
  · exact .inr ⟨g, cap, cur, e, hbg, by rw [hb.block g (Array.getElem?_eq_some_iff.1 hg).1]; exact hg, r⟩
theorem BytesAt.kept {w w' : World} {a : Option Addr} {l : List UInt8} (h : BytesAt w a l) (hs : w.heap.size ≤ w'.heap.size) (hk : ∀ x, a = some x → x.block < w.heap.size → w'.heap[x.block]? = w.heap[x.block]?) : BytesAt w' a l := by
  rcases h with rfl | ⟨b, off, e, hl, hc⟩
  · exact .inl rfl
  · refine .inr ⟨b, off, e, by omega, fun j hj => ?_⟩
    rw [World.cell?_of_block (w := w) (a := ⟨b, off + j, none⟩) (hk ⟨b, off, none⟩ e hl)]
    exact hc j hj

theorem addr_add (b off j : Nat) : (⟨b, off, none⟩ : Addr).add j = ⟨b, off + j, none⟩ := by unfold Addr.add; split <;> simp_all
theorem own_ne {a : Option Addr} {n c b m k : Nat} (h : ∀ y, a = some y → b ≤ y.block ∧ y.block < m) (hk : m ≤ k) : (Value.slice a n c).ownBlock ≠ some k := by
  cases a with
  | none => simp [Value.ownBlock]
  | some y =>
    have := (h y rfl).2
    simp only [Value.ownBlock, ne_eq, Option.some.injEq]
    omega
theorem field_len (l : List UInt8) : (field l).length ≤ 2 * l.length + 2 := by
  have := dbl_len l
  unfold field
  split
  · rw [List.length_append, List.length_append]
    simp only [List.length_cons, List.length_nil]
    omega
  · omega

set_option maxHeartbeats 4000000 in
set_option maxRecDepth 100000 in
theorem effect_walk (a : Option Addr) (l : List UInt8) (len cap : Nat) (il : Bool) (s : ByteArray) (w : World)
    (hl : l.length = len) (hlc : len ≤ cap) (hcm : cap ≤ maxLen) (hA : BytesAt w a l) (hs : s.size ≤ maxLen) :
    Calls Try.prog 7 #[.slice a len cap, .bool il, .string s] w fun e w' => e = .returned (.bool true) ∧ Below w.heap.size w w' := by
  unfold maxLen at hcm hs
  have hlm : len ≤ 9223372036854775807 := by omega
  have hsm : s.size ≤ 9223372036854775807 := by omega
  by_cases hz : len + s.size ≤ 1048576
  · by_cases h1 : (524288 : Int) < (len : Int)
    · go_enter Try.func7, Try.ntmps7
      go_wp2_with (go_at_call 16; refine (zz16_yes _ _ _ _ _ _ hz).mono ?_; rintro e w' ⟨rfl, rfl⟩)
      go_ret
      exact ⟨rfl, Below.refl _ _⟩
    · by_cases h2 : (524288 : Int) < (s.size : Int)
      · go_enter Try.func7, Try.ntmps7
        go_wp2_with (go_at_call 16; refine (zz16_yes _ _ _ _ _ _ hz).mono ?_; rintro e w' ⟨rfl, rfl⟩)
        go_ret
        exact ⟨rfl, Below.refl _ _⟩
      · have h1b : decide ((524288 : Int) < (len : Int)) = false := decide_eq_false h1
        have h2b : decide ((524288 : Int) < (s.size : Int)) = false := decide_eq_false h2
        subst hl
        clear hlc hcm hs
        go_enter Try.func7, Try.ntmps7
        go_wp2_with (go_at_call 16; refine (zz16_yes _ _ _ _ _ _ hz).mono ?_; rintro e w' ⟨rfl, hw⟩; have hw2 := hw.symm; subst hw2)
        refine (clone_calls a l l.length cap w rfl hA (by omega)).mono ?_
        rintro e w1 ⟨v1, rfl, hO1, hb1⟩
        obtain ⟨a1, c1, rfl, hlc1, hm1, hB1, _, hx1⟩ := hO1.form
        have Hx1 : Hid (∀ x, a1 = some x → w.heap.size ≤ x.block ∧ x.block < w1.heap.size) := hx1
        clear hx1
        go_wp2_with fail
        refine (clone_calls a1 l l.length c1 w1 rfl hB1 (by omega)).mono ?_
        rintro e w2 ⟨v2, rfl, hO2, hb2⟩
        obtain ⟨a2, c2, rfl, hlc2, hm2, hB2, _, hx2⟩ := hO2.form
        have Hx2 : Hid (∀ x, a2 = some x → w1.heap.size ≤ x.block ∧ x.block < w2.heap.size) := hx2
        clear hx2
        go_wp2_with fail
        refine (newcsv_calls (.slice a1 l.length c1) ⟨_, _, _, rfl⟩ il w2).mono ?_
        rintro e w3 ⟨rfl, hw3⟩
        have hb23 : Below w2.heap.size w2 w3 := by rw [hw3]; exact (Below.refl _ _).alloc (Nat.le_refl _) _
        have hb13 : Below w1.heap.size w1 w3 := hb2.trans (hb23.mono hb2.size)
        have hC3 : CsvAt w3 w2.heap.size (.slice a1 l.length c1) il := by rw [hw3]; exact heap_alloc_last w2 _
        have hO3 := hO1.later hb13
        have hB23 := hB2.below hb23
        have hbw3 : Below w.heap.size w w3 := hb1.trans (hb13.mono hb1.size)
        clear hw3
        go_wp2_with fail
        refine (text_calls w2.heap.size w.heap.size (.slice a1 l.length c1) l il s w3 hC3 hO3 (by have := hb1.size; have := hb2.size; omega) hbw3.size (by omega) (by omega)).mono ?_
        rintro e w4 ⟨rfl, v4, hC4⟩
        have hbw4 : Below w.heap.size w w4 := hbw3.trans hC4.below
        have hB24 : BytesAt w4 a2 l := hB23.kept hC4.below.size (fun x hx hxl => hC4.keep x.block hxl (by have := (Hx2.out x hx).2; omega) (own_ne Hx1.out (Hx2.out x hx).1))
        obtain ⟨a4, c4, rfl, hlc4, hm4, hB4, _⟩ := hC4.owns.form
        clear hC3 hO3 hB23 hbw3 hb13 hb23 hB2 hO2 hb2 hB1 hO1 hb1 Hx1 Hx2 hm1 hm2 hlc1 hlc2
        have hCa := hC4.at_
        clear hC4
        go_wp2_with fail
        refine (buf_calls _ _ ⟨_, _, _, rfl⟩ true w4 hCa).mono ?_
        rintro e w' ⟨rfl, hw⟩
        have hw2 := hw.symm
        subst hw2
        go_wp2_with fail
        refine (inline_calls _ _ true w4 hCa).mono ?_
        rintro e w' ⟨rfl, hw⟩
        have hw2 := hw.symm
        subst hw2
        obtain ⟨r, hr⟩ : ∃ r, r = sep il ++ field (sb s) := ⟨_, rfl⟩
        have Hr : Hid (r = sep il ++ field (sb s)) := hr
        have hW : wrote l il (sb s) = l ++ r := by rw [hr, wrote, List.append_assoc]
        have hrl : r.length ≤ 1048600 := by
          have h1 := field_len (sb s)
          rw [sb_len] at h1
          have h2 : (sep il).length ≤ 1 := by cases il <;> simp [sep]
          rw [hr, List.length_append]; omega
        rw [hW] at hB4 hlc4 ⊢
        have hN : (l ++ r).length = l.length + r.length := List.length_append
        rw [hN] at hlc4 ⊢
        clear hr hCa hW hN
        go_wp2_with fail
        go_loopg [10] l.length (fun g i wx => ∃ k n : Nat, k + g = l.length ∧ i = .int .i64 k ∧ wx = w4.drewN n)
        case atStart => exact ⟨0, 0, by omega, rfl, rfl⟩
        case round =>
          obtain ⟨k, n, hk, rfl, rfl⟩ := hrel
          cases gk with
          | zero =>
            obtain rfl : k = l.length := by omega
            have hlt : ¬ ((l.length : Int) < (l.length : Int)) := by omega
            have hb5 := below_draws hbw4 n
            have hB5 : BytesAt (w4.drewN n) a4 (l ++ r) := hB4
            clear hbw4 hB4 hB24
            generalize w4.drewN n = w5 at *
            go_upto_region 21 with fail
            go_cut [9, 11] (fun _s9 s11 wx => ∃ t tc, s11 = .slice t r.length tc ∧ BytesAt wx t r ∧ r.length ≤ tc ∧ tc ≤ maxLen ∧ wx = w5)
            case first =>
              by_cases hc : c4 = l.length
              · have hnl : r = [] := List.eq_nil_of_length_eq_zero (by omega)
                have hrz : r.length = 0 := by rw [hnl]; rfl
                have HT : Hid (BytesAt w5 a4 r) := by rw [hnl]; exact .inl rfl
                clear hnl
                go_wp2
                go_meet
                case rel => exact ⟨_, _, by rw [hrz], HT.out, by omega, by unfold maxLen; omega, rfl⟩
              · have hc' : ¬ ((c4 : Int) = (l.length : Int)) := by omega
                have HT : Hid (BytesAt w5 (Option.map (fun x => x.add l.length) a4) r) := hB5.slide
                go_wp2
                go_meet
                case rel => exact ⟨_, _, rfl, HT.out, by omega, by omega, rfl⟩
            case rest =>
              obtain ⟨t, tc, rfl, hT, hrt, htm, hwc⟩ := hcut
              subst hwc
              clear hB5 hlc4 hm4
              unfold maxLen at htm
              obtain ⟨F, hF⟩ : ∃ F, F = field (sb s) := ⟨_, rfl⟩
              have HF : Hid (F = field (sb s)) := hF
              have Hr2 : Hid (r = sep il ++ F) := by show _ = _; rw [Hr.out, hF]
              clear hF Hr
              go_upto_if 64 with fail
              go_cut [11] (fun s11 wx => ∃ t tc, s11 = .slice t F.length tc ∧ BytesAt wx t F ∧ F.length ≤ tc ∧ tc ≤ maxLen ∧ wx = wc)
              case first =>
                cases il with
                | false =>
                  obtain rfl : r = F := by rw [Hr2.out]; rfl
                  go_wp2
                  go_meet
                  case rel => exact ⟨_, _, rfl, hT, hrt, by unfold maxLen; omega, rfl⟩
                | true =>
                  have hr2 : r = [44] ++ F := Hr2.out
                  have hrl2 : r.length = F.length + 1 := by rw [hr2]; simp
                  have h0 : r.getD 0 0 = 44 := by rw [hr2]; rfl
                  obtain ⟨b, off, rfl, hbl, hc⟩ := hT.at 0 (by omega)
                  have hc0 := hc 0 (by omega)
                  rw [h0, Nat.add_zero, show (((44 : UInt8).toNat : Nat) : Int) = 44 from rfl] at hc0
                  rw [hr2] at hT
                  have HT := hT.slide
                  simp only [Option.map_some, List.length_cons, List.length_nil, Nat.zero_add, addr_add] at HT
                  clear hT hc hr2 h0
                  rw [hrl2] at hrt hrl ⊢
                  clear hrl2 Hr2
                  have q0 : (((F.length : Int) + 1) == 0) = false := beq_eq_false_iff_ne.2 (by omega)
                  by_cases htc : tc = 1
                  · have hFn : F = [] := List.eq_nil_of_length_eq_zero (by omega)
                    have HT2 : Hid (BytesAt wc (some ⟨b, off, none⟩) F) := .inl hFn
                    have hF0 : F.length = 0 := by omega
                    clear hFn HT
                    subst htc
                    go_wp2
                    go_meet
                    case rel => exact ⟨_, _, by rw [hF0], HT2.out, by omega, by unfold maxLen; omega, rfl⟩
                  · have htc' : ¬ ((tc : Int) = 1) := by omega
                    have HT2 : Hid (BytesAt wc (some ⟨b, off + 1, none⟩) F) := HT
                    clear HT
                    go_wp2
                    go_meet
                    case rel => exact ⟨_, _, rfl, HT2.out, by omega, by unfold maxLen; omega, rfl⟩
              case rest =>
                clear hT hrt htm Hr2 hrl
                obtain ⟨t, tc, rfl, hT, hrt, htm, hwc⟩ := hcut
                subst hwc
                go_wp2_with fail
                refine (count_calls s wc (by omega)).mono ?_
                rintro e w' ⟨rfl, hw⟩
                have hw2 := hw.symm
                subst hw2
                cases hn : needs (sb s) with
                | false =>
                  have hcs : ((cs (sb s) : Nat) : Int) = (s.size : Int) := by have := (cs_needs (sb s)).2 hn; rw [sb_len] at this; omega
                  rw [hcs]
                  have hss : ((s.size : Int) == (s.size : Int)) = true := by simp
                  have hFs : F = sb s := by rw [HF.out, field, hn]; rfl
                  have hst := run_str (n := F.length) (c := tc) hT rfl
                  have hds : (⟨F.toArray⟩ : ByteArray) = s := by rw [hFs]; simp [sb]
                  rw [hds] at hst
                  clear hcs hFs hds hn
                  go_wp2
                  go_ret
                  exact ⟨rfl, hb5⟩
                | true =>
                  have hcs : (((cs (sb s) : Nat) : Int) == (s.size : Int)) = false := by
                    rw [beq_eq_false_iff_ne]
                    intro he
                    have := (cs_needs (sb s)).1 (by rw [sb_len]; omega)
                    rw [hn] at this; simp at this
                  have hFs : F = [34] ++ dbl (sb s) ++ [34] := by rw [HF.out, field, hn]; rfl
                  have HFs : Hid (F = [34] ++ dbl (sb s) ++ [34]) := hFs
                  have hsl : (sb s).length ≤ 1048576 := by rw [sb_len]; omega
                  clear hFs hn
                  go_wp2_with fail
                  refine (unquote_calls t (sb s) F F.length tc wc HFs.out rfl hrt htm hT hsl).mono ?_
                  rintro e w6 ⟨rfl, hb6⟩
                  have hds : (⟨(sb s).toArray⟩ : ByteArray) = s := by simp [sb]
                  rw [hds]
                  have hb7 := hb5.trans (hb6.mono hb5.size)
                  clear hds
                  go_wp2
                  go_ret
                  exact ⟨rfl, hb7⟩
          | succ g =>
            have hlt : (k : Int) < (l.length : Int) := by omega
            have hlt2 : (k : Int) < (l.length : Int) + (r.length : Int) := by omega
            obtain ⟨b1, off1, rfl, _, hc1⟩ := hB24.at k (by omega)
            obtain ⟨b2, off2, rfl, _, hc2⟩ := hB4.at k (by rw [List.length_append]; omega)
            have t1 := hc1 k (by omega)
            have t2 := hc2 k (by rw [List.length_append]; omega)
            rw [show (l ++ r).getD k 0 = l.getD k 0 by simp [List.getD_eq_getElem?_getD, List.getElem?_append, show k < l.length by omega]] at t2
            clear hc1 hc2
            generalize l.getD k 0 = o at *
            have hoo : ((o.toNat : Int) != (o.toNat : Int)) = false := by simp
            go_wp2
            go_quiet (fail)
            go_wp2
            go_roundg g
            case measure => omega
            case rel => exact ⟨k + 1, _, by omega, by go_num, rfl⟩
  · go_enter Try.func7, Try.ntmps7
    go_wp2_with (go_at_call 16; refine (zz16_any _ _ _ _ _ _ hlm hsm hz).mono ?_; rintro e w' ⟨rfl, rfl⟩)
    go_ret
    exact ⟨rfl, Below.refl _ _⟩

/-- What the shell tells of a slice of octets that came in, in these words. -/
theorem bytes_of_row {w : World} {a : Option Addr} {len cap : Nat} {zs : List Int}
    (h : (a = none ∧ len = 0 ∧ cap = 0 ∧ zs = []) ∨
      ∃ x, a = some x ∧ len ≤ cap ∧ cap ≤ maxLen ∧ zs.length = cap ∧ (∀ i, i < zs.length → w.cell? (x.add i) = some (.int .u8 (zs.getD i 0))) ∧ ∀ n ∈ zs, (Lit.int .u8 n).wf = true) :
    ∃ l : List UInt8, l.length = len ∧ len ≤ cap ∧ cap ≤ maxLen ∧ BytesAt w a l := by
  rcases h with ⟨rfl, rfl, rfl, rfl⟩ | ⟨x, rfl, hl, hm, hz, hc, hwf⟩
  · exact ⟨[], rfl, Nat.le_refl _, by unfold maxLen; omega, .inl rfl⟩
  · have hlen : ((zs.take len).map (fun z => UInt8.ofNat z.toNat)).length = len := by simp; omega
    refine ⟨(zs.take len).map (fun z => UInt8.ofNat z.toNat), hlen, hl, hm, ?_⟩
    by_cases hp : 0 < len
    · obtain ⟨b, off, rfl, hc'⟩ := ints_at hc (by omega)
      refine .inr ⟨b, off, rfl, World.block_lt_of_cell? w _ (hc' 0 (by omega)), fun j hj => ?_⟩
      rw [hlen] at hj
      rw [hc' j (by omega)]
      have hjz : j < zs.length := by omega
      have hb := bounds_u8 (hwf zs[j] (List.getElem_mem hjz))
      have e1 : zs.getD j 0 = zs[j] := by simp [List.getD_eq_getElem?_getD, hjz]
      have e2 : ((zs.take len).map (fun z => UInt8.ofNat z.toNat)).getD j 0 = UInt8.ofNat zs[j].toNat := by
        simp [List.getD_eq_getElem?_getD, hjz, hj]
      rw [e1, e2, UInt8.toNat_ofNat_of_lt' (by show zs[j].toNat < 256; omega), Int.toNat_of_nonneg hb.1]
    · refine .inl ?_
      obtain rfl : len = 0 := by omega
      simp
end Go.Proofs.Qxb6603138a
