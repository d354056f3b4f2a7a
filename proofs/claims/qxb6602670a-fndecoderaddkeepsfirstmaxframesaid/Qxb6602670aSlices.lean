import Derived.Test.Qxb6602670aBytes
import Derived.WalkSpells
import Derived.Deep.LoopGhost
import Derived.Deep.QuietTactic
import Derived.BigQuiet
import Derived.OwnWalk
import Derived.Laws.OwnMore
import Derived.WalkKit
import Derived.ProofKit
namespace Go.Proofs.Qxb6602670a
open Go.RowKit

/-- Octets as cells. (A plain definition, so that the walk leaves it standing.) -/
def B8 (l : List Nat) : List Value := l.map fun (o : Nat) => .int .u8 (o : Int)
theorem B8_length (l : List Nat) : (B8 l).length = l.length := by simp [B8]
theorem B8_get (l : List Nat) (j : Nat) (h : j < l.length) : (B8 l)[j]? = some (.int .u8 ((l.getD j 0 : Nat) : Int)) := by
  simp [B8, List.getD_eq_getElem?_getD, h]
theorem B8_append (a b : List Nat) : B8 (a ++ b) = B8 a ++ B8 b := by simp [B8]
theorem B8_one (l : List Nat) : ∀ u ∈ B8 l, u.oneCell' = true := by
  intro u hu
  simp only [B8, List.mem_map] at hu
  obtain ⟨o, _, rfl⟩ := hu
  rfl
theorem info5 : (Try.prog.info? 5).map (fun i => (i.zero, i.size, i.bytes)) = some (some (.int .u8 0), 1, 1) := by kernel_rfl

/-- What an owned slice is, in the words of a slice that came in. -/
theorem owned_bytes {w : World} {base : Nat} {v : Value} {l : List Nat} (h : w.ownsRow base 5 1 v l.length (B8 l)) (hlt : ∀ o ∈ l, o < 256) :
    ∃ a cap, v = .slice a l.length cap ∧ l.length ≤ cap ∧ cap ≤ maxLen ∧ BytesAt w a l ∧ (a = none → l = [] ∧ cap = 0) ∧ (∀ x, a = some x → base ≤ x.block ∧ x.block < w.heap.size ∧ x.off = 0 ∧ x.spot = none) := by
  rcases h.2 with ⟨rfl, h0⟩ | ⟨g, cap, cur, rfl, hb, hg, hn, hm, _, htake⟩
  · have : l = [] := List.eq_nil_of_length_eq_zero h0
    subst this
    exact ⟨none, 0, rfl, Nat.le_refl _, by unfold maxLen; omega, ⟨hlt, .inl rfl⟩, fun _ => ⟨rfl, rfl⟩, fun x hx => by simp at hx⟩
  · have hgl : g < w.heap.size := (Array.getElem?_eq_some_iff.1 hg).1
    refine ⟨_, cap, rfl, hn, hm, ⟨hlt, .inr ⟨g, 0, rfl, hgl, fun j hj => ?_⟩⟩, fun hx => by simp at hx, fun x hx => ?_⟩
    · rw [Nat.zero_add, cell_of_row w g j cur 5 (0, 0) hg, ← B8_get l j hj, ← htake, List.getElem?_take, if_pos (by omega)]
      simp
    · simp only [Option.some.injEq] at hx
      subst hx
      exact ⟨hb, hgl, rfl, rfl⟩

theorem set_step {α : Type} (A M : List α) (k : Nat) (x : α) (hk : k < A.length) (hM : M.length = A.length) (hx : A[k]? = some x) :
    (A.take k ++ M.drop k).set k x = A.take (k + 1) ++ M.drop (k + 1) := by
  apply List.ext_getElem?
  intro i
  have hA : A[k] = x := by simpa [hk] using hx
  rw [List.getElem?_set]
  simp only [List.getElem?_append, List.length_take, List.getElem?_take, List.getElem?_drop, List.length_append, List.length_drop]
  by_cases e : k = i
  · subst e
    have h1 : k < min k A.length + (M.length - k) := by omega
    have h2 : k < min (k + 1) A.length := by omega
    rw [if_pos rfl, if_pos h1, if_pos h2, if_pos (by omega), hx]
  · rw [if_neg e]
    by_cases hi : i < k
    · rw [if_pos (by omega), if_pos hi, if_pos (by omega), if_pos (by omega)]
    · rw [if_neg (by omega), if_neg (by omega)]
      congr 1
      omega

set_option maxHeartbeats 1000000 in
set_option maxRecDepth 100000 in
theorem clone_calls (a : Option Addr) (l : List Nat) (len cap : Nat) (w : World) (hlen : l.length = len) (hB : BytesAt w a l) (hl : len ≤ 1048576) :
    Calls Try.prog 14 #[.slice a len cap] w fun e w' => ∃ v, e = .returned v ∧ w'.ownsRow w.heap.size 5 1 v len (B8 l) ∧ Below w.heap.size w w' := by
  have heq := fun wx => Lib.run_eql_slice_nil (P := Try.prog) wx 30 5 a len cap 0 0 Try.underlying30
  cases a with
  | none =>
    have hl0 : l = [] := by
      rcases hB.2 with h | ⟨b, off, h, _⟩
      · exact h
      · simp at h
    subst hl0
    obtain rfl : len = 0 := by simpa using hlen.symm
    go_enter Try.func14, Try.ntmps14
    go_wp2
    go_ret
    exact ⟨_, rfl, World.ownsRow_nil _ _ _ _, Below.refl _ _⟩
  | some x =>
    obtain ⟨i0, hi, hz0, hz1, hz2⟩ := info_parts info5
    go_enter Try.func14, Try.ntmps14
    go_wp2_with (at_make; refine wpList_make_full _ rfl _ _ 30 rfl w.heap.size 5 i0 (.int .u8 0) 1 Try.underlying30 hi hz0 hz1 _ _ _ _ len rfl rfl rfl rfl (by rw [hz2]; omega) (by unfold maxLen; omega) (Nat.le_refl _) ?_; intro w1 hown hgrow)
    have hz : w.heap.size < w1.heap.size := (hown.lt w.heap.size rfl).2
    have hb1 : Below w.heap.size w w1 := (Below.refl _ _).grown hgrow (Nat.le_refl _) (fun k hk => by simp at hk)
    rw [Nat.mul_one, show (Value.int IntKind.u8 0).cells = #[.int .u8 0] from rfl, toList_madeCells_one] at hown
    have hM : (List.replicate len (Value.int IntKind.u8 0)).length = (B8 l).length := by rw [B8_length, hlen]; simp
    generalize hMM : List.replicate len (Value.int IntKind.u8 0) = M at *
    clear hMM hgrow
    go_loopg [4] len (fun g i wx => ∃ k : Nat, k + g = len ∧ i = .int .i64 k ∧ wx.ownsRow w.heap.size 5 1 (.slice (some ⟨w.heap.size, 0, none⟩) len len) len ((B8 l).take k ++ M.drop k) ∧ Below w.heap.size w wx)
    case atStart => exact ⟨0, by omega, rfl, by simpa using hown, hb1⟩
    case round =>
      obtain ⟨k, hk, rfl, hown, hb⟩ := hrel
      cases gk with
      | zero =>
        obtain rfl : k = len := by omega
        have hlt : ¬ ((k : Int) < (k : Int)) := by omega
        have hfin : (B8 l).take k ++ M.drop k = B8 l := by
          rw [List.take_of_length_le (by rw [B8_length]; omega), List.drop_of_length_le (by rw [hM, B8_length]; omega), List.append_nil]
        rw [hfin] at hown
        clear hfin
        go_wp2
        go_ret
        exact ⟨_, rfl, hown, hb⟩
      | succ g =>
        have hlt : (k : Int) < (len : Int) := by omega
        obtain ⟨b, off, hx, hbl, hc⟩ := hB.at k (by omega)
        obtain rfl : x = ⟨b, off, none⟩ := by simpa using hx
        have hck : wr.cell? ⟨b, off + k, none⟩ = some (.int .u8 ((l.getD k 0 : Nat) : Int)) := by
          rw [hb.cell (p := ⟨b, off + k, none⟩) hbl]; exact hc k (by omega)
        have hfr := hown.frozenAt k
        obtain ⟨old, hold⟩ : ∃ old, wr.cell? ⟨w.heap.size, k, none⟩ = some old := by
          rw [hown.cellAt k (by omega)]
          have : k < ((B8 l).take k ++ M.drop k).length := by
            rw [List.length_append, List.length_take, List.length_drop, hM, B8_length]; omega
          exact ⟨_, List.getElem?_eq_getElem this⟩
        have hst := (hown.stored k (.int .u8 ((l.getD k 0 : Nat) : Int))).1
        rw [set_step (B8 l) M k _ (by rw [B8_length]; omega) hM (B8_get l k (by omega))] at hst
        have HST : Hid ((wr.setCell ⟨w.heap.size, k, none⟩ (.int .u8 ((l.getD k 0 : Nat) : Int))).ownsRow w.heap.size 5 1 (.slice (some ⟨w.heap.size, 0, none⟩) len len) len ((B8 l).take (k + 1) ++ M.drop (k + 1))) := hst
        have hb' := hb.setCell (p := ⟨w.heap.size, k, none⟩) (Nat.le_refl _) (.int .u8 ((l.getD k 0 : Nat) : Int))
        clear hst hown hc hx
        generalize l.getD k 0 = o at *
        go_wp2
        go_roundg g
        case measure => omega
        case rel => exact ⟨k + 1, by omega, by go_num, HST.out, hb'⟩

set_option maxHeartbeats 1000000 in
set_option maxRecDepth 100000 in
/-- 'equalBytes' at two slices of the same octets. -/
theorem equal_calls (a b : Option Addr) (l : List Nat) (len cap cap' : Nat) (w : World) (hlen : l.length = len) (hA : BytesAt w a l) (hB : BytesAt w b l) (hl : len ≤ 4194304) :
    Calls Try.prog 15 #[.slice a len cap, .slice b len cap'] w fun e w' => e = .returned (.bool true) ∧ ∃ n, w' = w.drewN n := by
  have hne : ((len : Int) != (len : Int)) = false := by simp
  go_enter Try.func15, Try.ntmps15
  go_wp2
  go_loopg [5] len (fun g i wx => ∃ k n : Nat, k + g = len ∧ i = .int .i64 k ∧ wx = w.drewN n)
  case atStart => exact ⟨0, 0, by omega, rfl, rfl⟩
  case round =>
    obtain ⟨k, n, hk, rfl, rfl⟩ := hrel
    cases gk with
    | zero =>
      obtain rfl : k = len := by omega
      have hlt : ¬ ((k : Int) < (k : Int)) := by omega
      go_wp2
      go_ret
      exact ⟨rfl, n, rfl⟩
    | succ g =>
      have hlt : (k : Int) < (len : Int) := by omega
      obtain ⟨b1, off1, rfl, _, hc1⟩ := hA.at k (by omega)
      obtain ⟨b2, off2, rfl, _, hc2⟩ := hB.at k (by omega)
      have h1 := hc1 k (by omega)
      have h2 := hc2 k (by omega)
      generalize l.getD k 0 = o at *
      have hoo : ((o : Int) != (o : Int)) = false := by simp
      clear hc1 hc2
      go_wp2
      go_quiet (fail)
      go_wp2
      go_roundg g
      case measure => omega
      case rel => exact ⟨k + 1, _, by omega, by go_num, rfl⟩

/-! ### What must be escaped -/
def esc (o : Nat) : Bool := decide (o < 32) || o == 126 || o == 125
theorem must_calls (o : Nat) (w : World) :
    Calls Try.prog 16 #[.int .u8 (o : Int)] w fun e w' => e = .returned (.bool (esc o)) ∧ w' = w := by
  by_cases h1 : o < 32
  · have h1' : (o : Int) < 32 := by omega
    have he : esc o = true := by simp [esc, h1]
    rw [he]
    go_enter Try.func16, Try.ntmps16
    go_wp2
    go_ret
    exact ⟨rfl, rfl⟩
  · have h1' : ¬ ((o : Int) < 32) := by omega
    by_cases h2 : o = 126
    · subst h2
      go_enter Try.func16, Try.ntmps16
      go_wp2
      go_ret
      exact ⟨rfl, rfl⟩
    · have h2' : ((o : Int) == 126) = false := by simp; omega
      by_cases h3 : o = 125
      · subst h3
        go_enter Try.func16, Try.ntmps16
        go_wp2
        go_ret
        exact ⟨rfl, rfl⟩
      · have h3' : ((o : Int) == 125) = false := by simp; omega
        have he : esc o = false := by simp [esc, h1, h2, h3]
        rw [he]
        clear he
        go_enter Try.func16, Try.ntmps16
        go_wp2
        go_ret
        exact ⟨rfl, rfl⟩

/-! ### The law's guard on lengths, at two slices -/
theorem zz12_yes (a b : Option Addr) (len cap len' cap' : Nat) (w : World) (h : len + len' ≤ 1048576) :
    Calls Try.prog 12 #[.slice a len cap, .slice b len' cap'] w fun e w' => e = .returned (.bool true) ∧ w' = w := by
  have h1 : ¬ ((1048576 : Int) < (len : Int)) := by omega
  have h2 : ¬ ((1048576 : Int) < (len' : Int)) := by omega
  have h3 : ¬ ((1048576 : Int) < (len : Int) + (len' : Int)) := by omega
  go_enter Try.func12, Try.ntmps12
  go_wp2
  go_ret
  exact ⟨rfl, rfl⟩
theorem zz12_any (a b : Option Addr) (len cap len' cap' : Nat) (w : World) (h : len ≤ 9223372036854775807) (h' : len' ≤ 9223372036854775807) (hn : ¬ len + len' ≤ 1048576) :
    Calls Try.prog 12 #[.slice a len cap, .slice b len' cap'] w fun e w' => e = .returned (.bool false) ∧ w' = w := by
  by_cases h1 : (1048576 : Int) < (len : Int)
  · go_enter Try.func12, Try.ntmps12
    go_wp2
    go_ret
    exact ⟨rfl, rfl⟩
  · by_cases h2 : (1048576 : Int) < (len' : Int)
    · go_enter Try.func12, Try.ntmps12
      go_wp2
      go_ret
      exact ⟨rfl, rfl⟩
    · have h3 : (1048576 : Int) < (len : Int) + (len' : Int) := by omega
      go_enter Try.func12, Try.ntmps12
      go_wp2
      go_ret
      exact ⟨rfl, rfl⟩
end Go.Proofs.Qxb6602670a
