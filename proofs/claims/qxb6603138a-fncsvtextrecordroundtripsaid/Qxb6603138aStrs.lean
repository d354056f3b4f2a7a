import Derived.Test.Qxb6603138aSmall
import Derived.SliceStrings
namespace Go.Proofs.Qxb6603138a
open Go.RowKit

/-! ### Strings in memory -/
def StrsAt (w : World) (a : Option Addr) (fs : List ByteArray) : Prop :=
  fs = [] ∨ ∃ b off, a = some ⟨b, off, none⟩ ∧ b < w.heap.size ∧ ∀ j, j < fs.length → w.cell? ⟨b, off + j, none⟩ = some (.string (fs.getD j ByteArray.empty))
theorem StrsAt.at {w : World} {a : Option Addr} {fs : List ByteArray} (h : StrsAt w a fs) (k : Nat) (hk : k < fs.length) :
    ∃ b off, a = some ⟨b, off, none⟩ ∧ b < w.heap.size ∧ ∀ j, j < fs.length → w.cell? ⟨b, off + j, none⟩ = some (.string (fs.getD j ByteArray.empty)) := by
  rcases h with rfl | h
  · simp at hk
  · exact h
theorem StrsAt.below {w w' : World} {a : Option Addr} {fs : List ByteArray} (h : StrsAt w a fs) (hb : Below w.heap.size w w') : StrsAt w' a fs := by
  rcases h with rfl | ⟨b, off, e, hl, hc⟩
  · exact .inl rfl
  · exact .inr ⟨b, off, e, Nat.lt_of_lt_of_le hl hb.size, fun j hj => by rw [hb.cell (p := ⟨b, off + j, none⟩) hl]; exact hc j hj⟩
def strCellsOf (fs : List ByteArray) : List Value := fs.map Value.string
theorem strCellsOf_length (fs : List ByteArray) : (strCellsOf fs).length = fs.length := by simp [strCellsOf]
theorem strCellsOf_get (fs : List ByteArray) (j : Nat) (h : j < fs.length) : (strCellsOf fs)[j]? = some (.string (fs.getD j ByteArray.empty)) := by
  simp [strCellsOf, List.getD_eq_getElem?_getD, h]
theorem strCellsOf_append (a b : List ByteArray) : strCellsOf (a ++ b) = strCellsOf a ++ strCellsOf b := by simp [strCellsOf]
theorem strCellsOf_one (fs : List ByteArray) : ∀ u ∈ strCellsOf fs, u.oneCell' = true := by
  intro u hu
  simp only [strCellsOf, List.mem_map] at hu
  obtain ⟨o, _, rfl⟩ := hu
  rfl
theorem info9 : (Try.prog.info? 9).map (fun i => (i.zero, i.size, i.bytes)) = some (some (.string ⟨#[]⟩), 1, 16) := by kernel_rfl
def OwnsS (w : World) (base : Nat) (v : Value) (fs : List ByteArray) : Prop := w.ownsRow base 9 1 v fs.length (strCellsOf fs)
theorem OwnsS.form {w : World} {base : Nat} {v : Value} {fs : List ByteArray} (h : OwnsS w base v fs) :
    ∃ a cap, v = .slice a fs.length cap ∧ fs.length ≤ cap ∧ cap ≤ maxLen ∧ StrsAt w a fs := by
  rcases h.2 with ⟨rfl, h0⟩ | ⟨g, cap, cur, rfl, hb, hg, hn, hm, _, htake⟩
  · have : fs = [] := List.eq_nil_of_length_eq_zero h0
    subst this
    exact ⟨none, 0, rfl, Nat.le_refl _, by unfold maxLen; omega, .inl rfl⟩
  · have hgl : g < w.heap.size := (Array.getElem?_eq_some_iff.1 hg).1
    refine ⟨_, cap, rfl, hn, hm, .inr ⟨g, 0, rfl, hgl, fun j hj => ?_⟩⟩
    rw [Nat.zero_add, cell_of_row w g j cur 9 (0, 0) hg, ← strCellsOf_get fs j hj, ← htake, List.getElem?_take, if_pos (by omega)]
    simp
theorem OwnsS.later {w w' : World} {base : Nat} {v : Value} {fs : List ByteArray} (h : OwnsS w base v fs) (hb : Below w.heap.size w w') : OwnsS w' base v fs := by
  refine ⟨h.1, ?_⟩
  rcases h.2 with h' | ⟨g, cap, cur, e, hbg, hg, r⟩
  · exact .inl h'
  · exact .inr ⟨g, cap, cur, e, hbg, by rw [hb.block g (Array.getElem?_eq_some_iff.1 hg).1]; exact hg, r⟩
theorem OwnsS.nil (w : World) (base : Nat) : OwnsS w base (.slice none 0 0) [] := World.ownsRow_nil _ _ _ _

/-! ### The law's guard on lengths -/
/-- The guard says some bool; if it says yes, each string is short. (A plain definition: the walk leaves it standing.) -/
def Guarded (fs : List ByteArray) (w : World) (e : Ending) (w' : World) : Prop := ∃ bb, e = .returned (.bool bb) ∧ w' = w ∧ (bb = true → ∀ f ∈ fs, f.size ≤ 1048576)
set_option maxHeartbeats 1000000 in
set_option maxRecDepth 100000 in
theorem zz24_calls (a : Option Addr) (fs : List ByteArray) (len cap : Nat) (w : World) (hlen : fs.length = len) (hm : len ≤ 9223372036854775807) (hS : StrsAt w a fs) (hsz : ∀ f ∈ fs, f.size ≤ maxLen) :
    Calls Try.prog 24 #[.slice a len cap] w fun e w' => Guarded fs w e w' := by
  by_cases h1 : (1048576 : Int) < (len : Int)
  · go_enter Try.func24, Try.ntmps24
    go_wp2
    go_ret
    exact ⟨_, rfl, rfl, fun h => by cases h⟩
  · have h1b : decide ((1048576 : Int) < (len : Int)) = false := decide_eq_false h1
    go_enter Try.func24, Try.ntmps24
    go_wp2
    go_loopg [4, 3] len (fun g i v wx => ∃ k z : Nat, k + g = len ∧ i = .int .i64 k ∧ v = .int .i64 (z : Nat) ∧ z ≤ 1048576 ∧ Hid (∀ f ∈ fs.take k, f.size ≤ 1048576) ∧ wx = w)
    case atStart => exact ⟨0, len, by omega, rfl, by simp, by omega, by intro f hf; simp at hf, rfl⟩
    case round =>
      obtain ⟨k, z, hk, rfl, rfl, hz, HF, rfl⟩ := hrel
      cases gk with
      | zero =>
        obtain rfl : k = len := by omega
        have hlt : ¬ ((k : Int) < (k : Int)) := by omega
        go_wp2
        go_ret
        exact ⟨_, rfl, rfl, fun _ f hf => HF.out f (by rw [List.take_of_length_le (by omega)]; exact hf)⟩
      | succ g =>
        have hlt : (k : Int) < (len : Int) := by omega
        obtain ⟨b, off, rfl, _, hc⟩ := hS.at k (by omega)
        have hck := hc k (by omega)
        have hf : fs.getD k ByteArray.empty ∈ fs := by
          rw [List.getD_eq_getElem?_getD, List.getElem?_eq_getElem (by omega)]
          exact List.getElem_mem (by omega)
        have hfs := hsz _ hf
        unfold maxLen at hfs
        have HN : Hid ((fs.getD k ByteArray.empty).size ≤ 1048576 → ∀ f ∈ fs.take (k + 1), f.size ≤ 1048576) := by
          intro h f hf
          rw [List.take_succ_eq_append_getElem (by omega), List.mem_append] at hf
          rcases hf with hf | hf
          · exact HF.out f hf
          · simp only [List.mem_singleton] at hf
            rw [hf]
            simpa [List.getD_eq_getElem?_getD, show k < fs.length by omega] using h
        clear hc hf
        generalize fs.getD k ByteArray.empty = f at *
        by_cases h2 : (1048576 : Int) < (f.size : Int)
        · go_wp2
          go_ret
          exact ⟨_, rfl, rfl, fun h => by cases h⟩
        · by_cases h3 : (1048576 : Int) < (z : Int) + (f.size : Int)
          · go_wp2
            go_ret
            exact ⟨_, rfl, rfl, fun h => by cases h⟩
          · go_wp2
            go_roundg g
            case measure => omega
            case rel => exact ⟨k + 1, z + f.size, by omega, by go_num, by go_num, by omega, HN.out (by omega), rfl⟩

/-! ### A copy of a slice of strings -/
def Cloned (fs : List ByteArray) (len : Nat) (w : World) (e : Ending) (w' : World) : Prop := ∃ a' c', e = .returned (.slice a' len c') ∧ StrsAt w' a' fs ∧ Below w.heap.size w w'
theorem set_step {α : Type} (A M : List α) (k : Nat) (x : α) (hk : k < A.length) (hM : M.length = A.length) (hx : A[k]? = some x) :
    (A.take k ++ M.drop k).set k x = A.take (k + 1) ++ M.drop (k + 1) := by
  apply List.ext_getElem?
  intro i
  rw [List.getElem?_set]
  simp only [List.getElem?_append, List.length_take, List.getElem?_take, List.getElem?_drop, List.length_append, List.length_drop]
  by_cases e : k = i
  · subst e
    have h1 : k < min k A.length + (M.length - k) := by omega
    have h2 : k < min (k + 1) A.length := by omega
    rw [if_pos rfl, if_pos h1, if_pos h2, if_pos (by omega), hx]
  · rw [if_neg e]
    by_cases hi : i < k
    · rw [if_pos (by omega), if_pos hi, if_pos (by omega), if_pos (by omega)]
    · rw [if_neg (by omega), if_neg (by omega)]
      congr 1
      omega

set_option maxHeartbeats 1000000 in
set_option maxRecDepth 100000 in
theorem clones_calls (a : Option Addr) (fs : List ByteArray) (len cap : Nat) (w : World) (hlen : fs.length = len) (hS : StrsAt w a fs) (hl : len ≤ 1048576) :
    Calls Try.prog 25 #[.slice a len cap] w fun e w' => Cloned fs len w e w' := by
  have heq := fun wx => Lib.run_eql_slice_nil (P := Try.prog) wx 35 9 a len cap 0 0 Try.underlying35
  cases a with
  | none =>
    have hl0 : fs = [] := by
      rcases hS with h | ⟨b, off, h, _⟩
      · exact h
      · simp at h
    subst hl0
    obtain rfl : len = 0 := by simpa using hlen.symm
    go_enter Try.func25, Try.ntmps25
    go_wp2
    go_ret
    exact ⟨_, _, rfl, .inl rfl, Below.refl _ _⟩
  | some x =>
    obtain ⟨i0, hi, hz0, hz1, hz2⟩ := info_parts info9
    go_enter Try.func25, Try.ntmps25
    go_wp2_with (at_make; refine wpList_make_full _ rfl _ _ 35 rfl w.heap.size 9 i0 (.string ⟨#[]⟩) 1 Try.underlying35 hi hz0 hz1 _ _ _ _ len rfl rfl rfl rfl (by rw [hz2]; omega) (by unfold maxLen; omega) (Nat.le_refl _) ?_; intro w1 hown hgrow)
    have hz : w.heap.size < w1.heap.size := (hown.lt w.heap.size rfl).2
    have hb1 : Below w.heap.size w w1 := (Below.refl _ _).grown hgrow (Nat.le_refl _) (fun k hk => by simp at hk)
    rw [Nat.mul_one, show (Value.string ⟨#[]⟩).cells = #[.string ⟨#[]⟩] from rfl, toList_madeCells_one] at hown
    have hM : (List.replicate len (Value.string ⟨#[]⟩)).length = (strCellsOf fs).length := by rw [strCellsOf_length, hlen]; simp
    generalize hMM : List.replicate len (Value.string ⟨#[]⟩) = M at *
    clear hMM hgrow
    go_loopg [4] len (fun g i wx => ∃ k : Nat, k + g = len ∧ i = .int .i64 k ∧ wx.ownsRow w.heap.size 9 1 (.slice (some ⟨w.heap.size, 0, none⟩) len len) len ((strCellsOf fs).take k ++ M.drop k) ∧ Below w.heap.size w wx)
    case atStart => exact ⟨0, by omega, rfl, by simpa using hown, hb1⟩
    case round =>
      obtain ⟨k, hk, rfl, hown, hb⟩ := hrel
      cases gk with
      | zero =>
        obtain rfl : k = len := by omega
        have hlt : ¬ ((k : Int) < (k : Int)) := by omega
        have hfin : (strCellsOf fs).take k ++ M.drop k = strCellsOf fs := by
          rw [List.take_of_length_le (by rw [strCellsOf_length]; omega), List.drop_of_length_le (by rw [hM, strCellsOf_length]; omega), List.append_nil]
        rw [hfin] at hown
        have HO : Hid (StrsAt wr (some ⟨w.heap.size, 0, none⟩) fs) := by
          have hO : OwnsS wr w.heap.size (.slice (some ⟨w.heap.size, 0, none⟩) k k) fs := by unfold OwnsS; rw [hlen]; exact hown
          obtain ⟨a', c', e', _, _, hS'⟩ := hO.form
          simp only [Value.slice.injEq] at e'
          show StrsAt _ _ _
          rw [e'.1]
          exact hS'
        clear hfin hown
        go_wp2
        go_ret
        exact ⟨_, _, rfl, HO.out, hb⟩
      | succ g =>
        have hlt : (k : Int) < (len : Int) := by omega
        obtain ⟨b, off, hx, hbl, hc⟩ := hS.at k (by omega)
        obtain rfl : x = ⟨b, off, none⟩ := by simpa using hx
        have hck : wr.cell? ⟨b, off + k, none⟩ = some (.string (fs.getD k ByteArray.empty)) := by
          rw [hb.cell (p := ⟨b, off + k, none⟩) hbl]; exact hc k (by omega)
        have hfr := hown.frozenAt k
        obtain ⟨old, hold⟩ : ∃ old, wr.cell? ⟨w.heap.size, k, none⟩ = some old := by
          rw [hown.cellAt k (by omega)]
          have : k < ((strCellsOf fs).take k ++ M.drop k).length := by
            rw [List.length_append, List.length_take, List.length_drop, hM, strCellsOf_length]; omega
          exact ⟨_, List.getElem?_eq_getElem this⟩
        have hst := (hown.stored k (.string (fs.getD k ByteArray.empty))).1
        rw [set_step (strCellsOf fs) M k _ (by rw [strCellsOf_length]; omega) hM (strCellsOf_get fs k (by omega))] at hst
        have HST : Hid ((wr.setCell ⟨w.heap.size, k, none⟩ (.string (fs.getD k ByteArray.empty))).ownsRow w.heap.size 9 1 (.slice (some ⟨w.heap.size, 0, none⟩) len len) len ((strCellsOf fs).take (k + 1) ++ M.drop (k + 1))) := hst
        have hb' := hb.setCell (p := ⟨w.heap.size, k, none⟩) (Nat.le_refl _) (.string (fs.getD k ByteArray.empty))
        clear hst hown hc hx
        generalize fs.getD k ByteArray.empty = o at *
        go_wp2
        go_roundg g
        case measure => omega
        case rel => exact ⟨k + 1, by omega, by go_num, HST.out, hb'⟩
end Go.Proofs.Qxb6603138a
