import Derived.Test.Qxb6602670aSlices
namespace Go.Proofs.Qxb6602670a
open Go.RowKit

/-! ### The stuffing, plainly -/
def one (o : Nat) : List Nat := if esc o then [125, o ^^^ 32] else [o]
def stuff (l : List Nat) : List Nat := l.flatMap one
theorem one_len (o : Nat) : 1 ≤ (one o).length ∧ (one o).length ≤ 2 := by unfold one; split <;> simp
theorem stuff_snoc (l : List Nat) (o : Nat) : stuff (l ++ [o]) = stuff l ++ one o := by simp [stuff]
theorem stuff_append (a b : List Nat) : stuff (a ++ b) = stuff a ++ stuff b := by simp [stuff]
theorem stuff_len (l : List Nat) : l.length ≤ (stuff l).length ∧ (stuff l).length ≤ 2 * l.length := by
  induction l with
  | nil => simp [stuff]
  | cons o l ih =>
    have h := one_len o
    have e : stuff (o :: l) = one o ++ stuff l := by simp [stuff]
    rw [e, List.length_append, List.length_cons]
    omega
theorem one_lt (o : Nat) (h : o < 256) : ∀ x ∈ one o, x < 256 := by
  intro x hx
  unfold one at hx
  have : o ^^^ 32 < 256 := Nat.xor_lt_two_pow (n := 8) (by omega) (by omega)
  split at hx <;> simp at hx <;> omega
theorem stuff_lt (l : List Nat) (h : ∀ o ∈ l, o < 256) : ∀ x ∈ stuff l, x < 256 := by
  intro x hx
  obtain ⟨o, ho, hxo⟩ := List.mem_flatMap.1 hx
  exact one_lt o (h o ho) x hxo
theorem stuff_take (l : List Nat) (k : Nat) (h : k < l.length) : stuff (l.take (k + 1)) = stuff (l.take k) ++ one (l.getD k 0) := by
  rw [List.take_succ_eq_append_getElem h, stuff_snoc]
  simp [List.getD_eq_getElem?_getD, h]

theorem xor32 (o : Nat) (h : o < 256) : bits BinOp.xor IntKind.u8 (o : Int) 32 = ((o ^^^ 32 : Nat) : Int) := u8_xor_nat o 32 h (by omega)

/-- The slice value v owns the octets l. (A plain definition: the walk leaves it standing.) -/
def Owns (w : World) (base : Nat) (v : Value) (l : List Nat) : Prop := w.ownsRow base 5 1 v l.length (B8 l)
/-- What one round's append leaves, outside the walk. -/
theorem round_own {base : Nat} {w wr w1 : World} {v v' : Value} {D r : List Nat} {news : List Value} {o : Obj} (hb : Below base w wr) (hbase : base ≤ wr.heap.size)
    (hown : wr.ownsRow base 5 1 v D.length (B8 D)) (hown' : w1.ownsRow base 5 1 v' (D.length + r.length) (B8 D ++ news)) (hn : news = B8 r) (hg : (wr.alloc o).grownBy w1 v.ownBlock) :
    w1.ownsRow base 5 1 v' (D ++ r).length (B8 (D ++ r)) ∧ Below base w w1 := by
  subst hn
  refine ⟨by rw [List.length_append, B8_append]; exact hown', ?_⟩
  exact (hb.alloc hbase o).grown hg (by simp; omega) (fun k hk => (hown.lt k hk).1)
theorem two_new (w : World) (x y : Value) (t : TypeId) : ∀ j u, [x, y][j]? = some u → (w.alloc (.cells #[x, y] t)).cell? ((⟨w.heap.size, 0, none⟩ : Addr).add j) = some u := by
  intro j u hj
  have hadd : (⟨w.heap.size, 0, none⟩ : Addr).add j = ⟨w.heap.size, j, none⟩ := by unfold Addr.add; split <;> simp_all
  rw [hadd, cell_of_row _ _ j _ t (0, 0) (heap_alloc_last w _)]
  simpa using hj
theorem one_new (w : World) (x : Value) (t : TypeId) : ∀ j u, [x][j]? = some u → (w.alloc (.cells #[x] t)).cell? ((⟨w.heap.size, 0, none⟩ : Addr).add j) = some u := by
  intro j u hj
  have hadd : (⟨w.heap.size, 0, none⟩ : Addr).add j = ⟨w.heap.size, j, none⟩ := by unfold Addr.add; split <;> simp_all
  rw [hadd, cell_of_row _ _ j _ t (0, 0) (heap_alloc_last w _)]
  simpa using hj

set_option maxHeartbeats 4000000 in
set_option maxRecDepth 100000 in
theorem stuffed_calls (base : Nat) (v : Value) (d : List Nat) (a : Option Addr) (l : List Nat) (len cap : Nat) (w : World) (hlen : l.length = len)
    (hown : w.ownsRow base 5 1 v d.length (B8 d)) (hB : BytesAt w a l) (hap : ∀ x, a = some x → l ≠ [] → x.block < base) (hbase : base ≤ w.heap.size) (hl : len ≤ 1048576) (hnb : d.length ≤ 1048576) :
    Calls Try.prog 25 #[v, .slice a len cap] w fun e w' => ∃ v', e = .returned v' ∧ Owns w' base v' (d ++ stuff l) ∧ Below base w w' := by
  obtain ⟨i0, hi, hz0, hz1, hz2⟩ := info_parts info5
  go_enter Try.func25, Try.ntmps25
  go_wp2
  go_loopg [9, 0] len (fun g i v wx => ∃ (k : Nat) (D : List Nat), k + g = len ∧ i = .int .i64 k ∧ Hid (D = d ++ stuff (l.take k)) ∧ wx.ownsRow base 5 1 v D.length (B8 D) ∧ Below base w wx)
  case atStart => exact ⟨0, d, by omega, rfl, by show d = _; simp [stuff], hown, Below.refl _ _⟩
  case round =>
    obtain ⟨k, D, hk, rfl, HD, hown, hb⟩ := hrel
    rename_i v1
    cases gk with
    | zero =>
      obtain rfl : k = len := by omega
      have hlt : ¬ ((k : Int) < (k : Int)) := by omega
      go_wp2
      go_ret
      have hfin : d ++ stuff l = D := by rw [HD.out, List.take_of_length_le (by omega)]
      exact ⟨_, rfl, by rw [hfin]; exact hown, hb⟩
    | succ g =>
      have hlt : (k : Int) < (len : Int) := by omega
      obtain ⟨b, off, rfl, hbl, hc⟩ := hB.at k (by omega)
      have hck : wr.cell? ⟨b, off + k, none⟩ = some (.int .u8 ((l.getD k 0 : Nat) : Int)) := by
        rw [hb.cell (p := ⟨b, off + k, none⟩) (hap ⟨b, off, none⟩ rfl (fun e => by rw [e] at hlen; simp at hlen; omega))]; exact hc k (by omega)
      have ho := hB.lt k
      have hsz := hb.size
      have HN : Hid (∀ r, r = one (l.getD k 0) → D ++ r = d ++ stuff (l.take (k + 1))) := by
        intro r hr
        rw [HD.out, stuff_take l k (by omega), hr, List.append_assoc]
      have hdl : D.length ≤ 3145728 := by
        have h1 := stuff_len (l.take k)
        have h2 : (l.take k).length ≤ len := by rw [List.length_take]; omega
        rw [HD.out, List.length_append]; omega
      have hx := xor32 _ ho
      clear hc
      generalize l.getD k 0 = o at *
      by_cases h1 : o < 32
      · have h1' : (o : Int) < 32 := by omega
        have he : Hid (one o = [125, o ^^^ 32]) := by show one o = _; simp [one, esc, h1]
        generalize o ^^^ 32 = y at *
        go_wp2_with (at_builtin; refine wpList_append_own _ rfl (.tmp 23) (.tmp 26) 30 rfl base 5 i0 (.int .u8 0) 1 1 Try.underlying30 hi hz0 hz1 hz2 rfl (by decide) _ _ _ rfl (hown.alloc _) ⟨wr.heap.size, 0, none⟩ 2 2 [.int .u8 125, .int .u8 (y : Int)] rfl rfl (two_new _ _ _ _) (B8_one [125, y]) (by unfold maxLen; omega) (by omega) (by simp; omega) ?_; intro v' w1 hown' hgrow _)
        have R := round_own (r := [125, y]) hb (by omega) hown hown' rfl hgrow
        clear hown' hgrow hown
        go_wp2
        go_roundg g
        case measure => omega
        case rel => exact ⟨k + 1, _, by omega, by go_num, HN.out _ he.out.symm, R.1, R.2⟩
      · have h1' : ¬ ((o : Int) < 32) := by omega
        by_cases h2 : o = 126
        · subst h2
          have he : Hid (one 126 = [125, 94]) := rfl
          go_wp2_with (at_builtin; refine wpList_append_own _ rfl (.tmp 23) (.tmp 26) 30 rfl base 5 i0 (.int .u8 0) 1 1 Try.underlying30 hi hz0 hz1 hz2 rfl (by decide) _ _ _ rfl (hown.alloc _) ⟨wr.heap.size, 0, none⟩ 2 2 [.int .u8 125, .int .u8 94] rfl rfl (two_new _ _ _ _) (B8_one [125, 94]) (by unfold maxLen; omega) (by omega) (by simp; omega) ?_; intro v' w1 hown' hgrow _)
          have R := round_own (r := [125, 94]) hb (by omega) hown hown' rfl hgrow
          clear hown' hgrow hown
          go_wp2
          go_roundg g
          case measure => omega
          case rel => exact ⟨k + 1, _, by omega, by go_num, HN.out _ he.out.symm, R.1, R.2⟩
        · have h2' : ((o : Int) == 126) = false := by simp; omega
          by_cases h3 : o = 125
          · subst h3
            have he : Hid (one 125 = [125, 93]) := rfl
            go_wp2_with (at_builtin; refine wpList_append_own _ rfl (.tmp 23) (.tmp 26) 30 rfl base 5 i0 (.int .u8 0) 1 1 Try.underlying30 hi hz0 hz1 hz2 rfl (by decide) _ _ _ rfl (hown.alloc _) ⟨wr.heap.size, 0, none⟩ 2 2 [.int .u8 125, .int .u8 93] rfl rfl (two_new _ _ _ _) (B8_one [125, 93]) (by unfold maxLen; omega) (by omega) (by simp; omega) ?_; intro v' w1 hown' hgrow _)
            have R := round_own (r := [125, 93]) hb (by omega) hown hown' rfl hgrow
            clear hown' hgrow hown
            go_wp2
            go_roundg g
            case measure => omega
            case rel => exact ⟨k + 1, _, by omega, by go_num, HN.out _ he.out.symm, R.1, R.2⟩
          · have h3' : ((o : Int) == 125) = false := by simp; omega
            have he : Hid (one o = [o]) := by show one o = _; simp [one, esc, h1, h2, h3]
            go_wp2_with (at_builtin; refine wpList_append_own _ rfl (.tmp 28) (.tmp 30) 30 rfl base 5 i0 (.int .u8 0) 1 1 Try.underlying30 hi hz0 hz1 hz2 rfl (by decide) _ _ _ rfl (hown.alloc _) ⟨wr.heap.size, 0, none⟩ 1 1 [.int .u8 (o : Int)] rfl rfl (one_new _ _ _) (B8_one [o]) (by unfold maxLen; omega) (by omega) (by simp; omega) ?_; intro v' w1 hown' hgrow _)
            have R := round_own (r := [o]) hb (by omega) hown hown' rfl hgrow
            clear hown' hgrow hown
            go_wp2
            go_roundg g
            case measure => omega
            case rel => exact ⟨k + 1, _, by omega, by go_num, HN.out _ he.out.symm, R.1, R.2⟩
end Go.Proofs.Qxb6602670a
