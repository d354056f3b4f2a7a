import Derived.Test.Qxb6603138aParse
namespace Go.Proofs.Qxb6603138a
open Go.RowKit

/-! ### How long the record gets, plainly -/
def tot : List ByteArray → Nat
  | [] => 0
  | f :: r => f.size + 16 + tot r
theorem tot_append (a b : List ByteArray) : tot (a ++ b) = tot a + tot b := by
  induction a with
  | nil => simp [tot]
  | cons f r ih => simp only [List.cons_append, tot, ih]; omega
theorem tot_take (fs : List ByteArray) (k : Nat) (h : k < fs.length) : tot (fs.take (k + 1)) = tot (fs.take k) + ((fs.getD k ByteArray.empty).size + 16) := by
  rw [List.take_succ_eq_append_getElem h, tot_append]
  simp [tot, List.getD_eq_getElem?_getD, h]
theorem tot_le (fs : List ByteArray) (k : Nat) : tot (fs.take k) ≤ tot fs := by
  have : tot fs = tot (fs.take k) + tot (fs.drop k) := by rw [← tot_append, List.take_append_drop]
  omega
theorem field_len' (l : List UInt8) : (field l).length ≤ 2 * l.length + 2 := by
  have := dbl_len l
  unfold field
  split
  · rw [List.length_append, List.length_append]
    simp only [List.length_cons, List.length_nil]
    omega
  · omega
theorem tl_len (fs : List ByteArray) : (tl (fs.map sb)).length ≤ 2 * tot fs := by
  induction fs with
  | nil => simp [tl]
  | cons f r ih =>
    have e : tl ((f :: r).map sb) = (44 :: field (sb f)) ++ tl (r.map sb) := by simp [tl]
    have h1 := field_len' (sb f)
    rw [sb_len] at h1
    rw [e, List.length_append, List.length_cons]
    simp only [tot]
    omega
theorem line_len (fs : List ByteArray) : (line (fs.map sb)).length ≤ 2 * tot fs := by
  cases fs with
  | nil => simp [line]
  | cons f r =>
    have e : line ((f :: r).map sb) = field (sb f) ++ tl (r.map sb) := rfl
    have h1 := field_len' (sb f)
    rw [sb_len] at h1
    have h2 := tl_len r
    rw [e, List.length_append]
    simp only [tot]
    omega
theorem mk_sb (fs : List ByteArray) : (fs.map sb).map mk = fs := by
  rw [List.map_map]
  have : (mk ∘ sb) = id := by funext s; simp [mk, sb]
  rw [this, List.map_id]
theorem line_next (fs : List ByteArray) (k : Nat) (h : k < fs.length) : wrote (line ((fs.take k).map sb)) (decide (0 < k)) (sb (fs.getD k ByteArray.empty)) = line ((fs.take (k + 1)).map sb) := by
  have := line_take (fs.map sb) k (by simpa using h)
  rw [← List.map_take, ← List.map_take] at this
  rw [← this]
  congr 1
  simp [List.getD_eq_getElem?_getD, h]

set_option maxHeartbeats 8000000 in
set_option maxRecDepth 100000 in
theorem trip_walk (a : Option Addr) (fs : List ByteArray) (len cap : Nat) (w : World) (hlen : fs.length = len) (hlc : len ≤ cap) (hcm : cap ≤ maxLen) (hS : StrsAt w a fs) (hsz : ∀ f ∈ fs, f.size ≤ maxLen) :
    Calls Try.prog 8 #[.slice a len cap] w fun e w' => e = .returned (.bool true) ∧ Below w.heap.size w w' := by
  unfold maxLen at hcm
  have hlm : len ≤ 9223372036854775807 := by omega
  clear hlc hcm
  have Hsz : Hid (∀ f ∈ fs, f.size ≤ maxLen) := hsz
  clear hsz
  go_enter Try.func8, Try.ntmps8
  go_wp2_with fail
  refine (zz24_calls a fs len cap w hlen hlm hS Hsz.out).mono ?_
  rintro e w' ⟨bb, rfl, hw, hbb⟩
  have hw2 := hw.symm
  subst hw2
  cases bb with
  | false =>
    clear hbb
    go_wp2
    go_ret
    exact ⟨rfl, Below.refl _ _⟩
  | true =>
    have Hsm : Hid (∀ f ∈ fs, f.size ≤ 1048576) := hbb rfl
    clear hbb
    by_cases h1 : (65536 : Int) < (len : Int)
    · go_wp2
      go_ret
      exact ⟨rfl, Below.refl _ _⟩
    · have h1b : decide ((65536 : Int) < (len : Int)) = false := decide_eq_false h1
      go_wp2
      go_loopg [4, 3] len (fun g i v wx => ∃ k t : Nat, k + g = len ∧ i = .int .i64 k ∧ v = .int .i64 (t : Nat) ∧ t ≤ 1048576 ∧ Hid (t = tot (fs.take k)) ∧ wx = w)
      case atStart => exact ⟨0, 0, by omega, rfl, rfl, by omega, rfl, rfl⟩
      case round =>
        obtain ⟨k, t, hk, rfl, rfl, ht, HT, hwx⟩ := hrel
        have hwx2 := hwx.symm
        subst hwx2
        cases gk with
        | zero =>
          obtain rfl : k = len := by omega
          have hlt : ¬ ((k : Int) < (k : Int)) := by omega
          have HTT : Hid (tot fs ≤ 1048576) := by
            show _ ≤ _
            have := HT.out
            rw [List.take_of_length_le (by omega)] at this
            omega
          clear HT
          go_wp2_with fail
          refine (clones_calls a fs k cap w hlen hS (by omega)).mono ?_
          rintro e w1 ⟨a1, c1, rfl, hS1, hb1⟩
          go_wp2_with fail
          have hC0 : CsvAt (w1.alloc (.cells #[.slice none 0 0, .bool false] 39)) w1.heap.size (.slice none 0 0) false := heap_alloc_last w1 _
          have hsz2 : w1.heap.size ≤ (w1.alloc (.cells #[.slice none 0 0, .bool false] 39)).heap.size := by simp
          have HC : Hid (∀ wx, Below w1.heap.size (w1.alloc (.cells #[.slice none 0 0, .bool false] 39)) wx → ∀ j, j < k → ∃ b off, a1 = some ⟨b, off, none⟩ ∧ b < w1.heap.size ∧ wx.cell? ⟨b, off + j, none⟩ = some (.string (fs.getD j ByteArray.empty))) := by
            intro wx hbx j hj
            obtain ⟨b, off, e, hbl, hc⟩ := hS1.at j (by omega)
            refine ⟨b, off, e, hbl, ?_⟩
            rw [hbx.cell (p := ⟨b, off + j, none⟩) hbl, World.cell?_alloc_lt _ _ _ hbl]
            exact hc j (by omega)
          have hbw2 : Below w.heap.size w (w1.alloc (.cells #[.slice none 0 0, .bool false] 39)) := hb1.alloc hb1.size _
          have hD := hb1.size
          generalize w1.alloc (.cells #[.slice none 0 0, .bool false] 39) = w2 at *
          generalize w1.heap.size = D at *
          clear hS1 hb1 hS
          go_loopg [6] k (fun g s6 wx => ∃ (j : Nat) (v : Value) (il : Bool) (L : List UInt8), j + g = k ∧ s6 = .int .i64 j ∧ Hid (il = decide (0 < j)) ∧ Hid (L = line ((fs.take j).map sb)) ∧ CsvAt wx D v il ∧ Owns wx D v L ∧ Below D w2 wx)
          case atStart => exact ⟨0, _, false, [], by omega, rfl, rfl, rfl, hC0, Owns.nil _ _, Below.refl _ _⟩
          case round =>
            clear hC0
            obtain ⟨j, v, il, L, hj, rfl, HIL, HL, hCv, hOv, hbx⟩ := hrel
            have hLl : L.length ≤ 4194304 := by
              have h1 := line_len (fs.take j)
              have h2 := tot_le fs j
              have h3 : tot fs ≤ 1048576 := HTT.out
              rw [HL.out]; omega
            have hszx := hbx.size
            cases gk with
            | zero =>
              obtain rfl : j = k := by omega
              have hlt : ¬ ((j : Int) < (j : Int)) := by omega
              have hLe : L = line (fs.map sb) := by rw [HL.out, List.take_of_length_le (by omega)]
              obtain ⟨av, cv, rfl, hcv, hmv, hBv, _⟩ := hOv.form
              have HLe : Hid (L = line (fs.map sb)) := hLe
              clear hLe
              go_wp2_with fail
              refine (buf_calls D _ ⟨_, _, _, rfl⟩ il wr hCv).mono ?_
              rintro e w' ⟨rfl, hw⟩
              have hw2 := hw.symm
              subst hw2
              have hbwr : Below w.heap.size w wr := hbw2.trans (hbx.mono hD)
              by_cases h0 : j = 0
              · have hj0 : ((j : Int) == 0) = true := by rw [h0]; rfl
                have hf0 : fs = [] := List.eq_nil_of_length_eq_zero (by omega)
                have hL0 : L.length = 0 := by rw [HLe.out, hf0]; rfl
                have hil : il = false := by rw [HIL.out, h0]; rfl
                have hLz : ((L.length : Int) == 0) = true := by rw [hL0]; rfl
                subst hil
                clear hf0 h0 hL0
                go_wp2_with (go_at_call 21; refine (inline_calls D _ false wr hCv).mono ?_; rintro e w' ⟨rfl, hw⟩; have hw2 := hw.symm; subst hw2)
                go_ret
                exact ⟨rfl, hbwr⟩
              · have hj0 : ((j : Int) == 0) = false := beq_eq_false_iff_ne.2 (by omega)
                have hil : il = true := by rw [HIL.out]; exact decide_eq_true (by omega)
                subst hil
                go_wp2_with fail
                refine (inline_calls D _ true wr hCv).mono ?_
                rintro e w' ⟨rfl, hw⟩
                have hw2 := hw.symm
                subst hw2
                go_wp2_with fail
                have hBl : BytesAt wr av (line (fs.map sb)) := by rw [← HLe.out]; exact hBv
                refine (parse_calls av (fs.map sb) L.length cv wr (by rw [HLe.out]) hBl (by rw [List.length_map]; omega) (by rw [List.length_map]; omega) (by omega)).mono ?_
                rintro e w6 ⟨ao, co, rfl, hSo, hb6⟩
                rw [mk_sb] at hSo
                rw [List.length_map, hlen]
                have hbw6 : Below w.heap.size w w6 := hbwr.trans (hb6.mono hbwr.size)
                have HC6 : Hid (∀ q, q < j → ∃ b off, a1 = some ⟨b, off, none⟩ ∧ w6.cell? ⟨b, off + q, none⟩ = some (.string (fs.getD q ByteArray.empty))) := by
                  intro q hq
                  obtain ⟨b, off, e, hbl, hc⟩ := HC.out wr hbx q hq
                  refine ⟨b, off, e, ?_⟩
                  rw [hb6.cell (p := ⟨b, off + q, none⟩) (by show b < wr.heap.size; omega)]
                  exact hc
                clear HC hBl hBv hCv hOv
                have hjj : ((j : Int) != (j : Int)) = false := by simp
                go_wp2_with fail
                go_loopg [10] j (fun g i wx => ∃ q n : Nat, q + g = j ∧ i = .int .i64 q ∧ wx = w6.drewN n)
                case atStart => exact ⟨0, 0, by omega, rfl, rfl⟩
                case round =>
                  obtain ⟨q, n, hq, rfl, rfl⟩ := hrel
                  cases gk with
                  | zero =>
                    obtain rfl : q = j := by omega
                    have hlt : ¬ ((q : Int) < (q : Int)) := by omega
                    go_wp2
                    go_ret
                    exact ⟨rfl, below_draws hbw6 n⟩
                  | succ g =>
                    have hlt : (q : Int) < (j : Int) := by omega
                    obtain ⟨b1, off1, rfl, t1⟩ := HC6.out q (by omega)
                    obtain ⟨b2, off2, rfl, _, hc2⟩ := hSo.at q (by omega)
                    have t2 := hc2 q (by omega)
                    generalize fs.getD q ByteArray.empty = f at *
                    clear hc2
                    go_wp2
                    go_quiet (fail)
                    go_wp2
                    go_roundg g
                    case measure => omega
                    case rel => exact ⟨q + 1, _, by omega, by go_num, rfl⟩
            | succ g =>
              have hlt : (j : Int) < (k : Int) := by omega
              obtain ⟨b, off, rfl, hbl, hcj⟩ := HC.out wr hbx j (by omega)
              have hf : fs.getD j ByteArray.empty ∈ fs := by
                rw [List.getD_eq_getElem?_getD, List.getElem?_eq_getElem (by omega)]
                exact List.getElem_mem (by omega)
              have hfs := Hsm.out _ hf
              have HNX : Hid (wrote L il (sb (fs.getD j ByteArray.empty)) = line ((fs.take (j + 1)).map sb)) := by
                show _ = _
                rw [HL.out, HIL.out]
                exact line_next fs j (by omega)
              clear hf
              generalize fs.getD j ByteArray.empty = f at *
              go_wp2_with fail
              refine (text_calls D D v L il f wr hCv hOv (Nat.le_refl _) (by omega) (by omega) hfs).mono ?_
              rintro e w4 ⟨rfl, v4, hC4⟩
              clear hCv hOv
              go_wp2
              go_roundg g
              case measure => omega
              case rel => exact ⟨j + 1, v4, true, _, by omega, by go_num, by show _ = _; exact (decide_eq_true (by omega)).symm, HNX, hC4.at_, hC4.owns, hbx.trans hC4.below⟩
        | succ g =>
          have hlt : (k : Int) < (len : Int) := by omega
          obtain ⟨b, off, rfl, _, hc⟩ := hS.at k (by omega)
          have hck := hc k (by omega)
          have hf : fs.getD k ByteArray.empty ∈ fs := by
            rw [List.getD_eq_getElem?_getD, List.getElem?_eq_getElem (by omega)]
            exact List.getElem_mem (by omega)
          have hfs := Hsm.out _ hf
          have HN : Hid (tot (fs.take (k + 1)) = t + ((fs.getD k ByteArray.empty).size + 16)) := by show _ = _; rw [tot_take fs k (by omega), HT.out]
          clear hc hf
          generalize fs.getD k ByteArray.empty = f at *
          by_cases h2 : (1048576 : Int) < (t : Int) + ((f.size : Int) + 16)
          · go_wp2
            go_ret
            exact ⟨rfl, Below.refl _ _⟩
          · go_wp2
            go_roundg g
            case measure => omega
            case rel => exact ⟨k + 1, t + (f.size + 16), by omega, by go_num, by go_num, by omega, HN.out.symm, rfl⟩
end Go.Proofs.Qxb6603138a
