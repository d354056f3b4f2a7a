import Derived.Test.Qxb6603138aRows
import Derived.WalkSpells
import Derived.Deep.LoopGhost
import Derived.Deep.QuietTactic
import Derived.BigQuiet
import Derived.Deep.Cut
import Derived.Deep.CutRange
import Derived.Deep.DeepCutAuto
import Derived.Deep.AppendLies
import Derived.Deep.WholeRow
import Derived.OwnWalk
import Derived.Maps.AppendAt
import Derived.OneCell
import Derived.Laws.OwnMore
import Derived.Lib.Strings
import Derived.Lib.IndexBytes
import Derived.Lib.AppendStr
import Derived.Lib.FrozenHead
import Derived.OpenShut
import Derived.WalkKit
import Derived.ProofKit
namespace Go.Proofs.Qxb6603138a
open Go.RowKit

/-! ### Strings as lists of bytes -/
def sb (s : ByteArray) : List UInt8 := s.data.toList
theorem sb_len (s : ByteArray) : (sb s).length = s.size := (Lib.size_eq s).symm
theorem sb_get (s : ByteArray) (k : Nat) (h : k < s.size) : (sb s)[k]? = some s[k] := Lib.data_getElem? s k h
theorem sb_get' (s : ByteArray) (k : Nat) (h : k < s.size) (h' : k < (sb s).length) : (sb s)[k] = s[k] := by
  have := sb_get s k h
  rw [List.getElem?_eq_getElem h'] at this
  exact Option.some.inj this
theorem sb_take (s : ByteArray) (k : Nat) (h : k < s.size) : (sb s).take (k + 1) = (sb s).take k ++ [s[k]] := by
  rw [List.take_succ_eq_append_getElem (by rw [sb_len]; exact h), sb_get' s k h]
  rfl
theorem sb_all (s : ByteArray) : (sb s).take s.size = sb s := List.take_of_length_le (by rw [sb_len]; exact Nat.le_refl _)

/-! ### Octets in memory -/
theorem byteCells_get (l : List UInt8) (j : Nat) (h : j < l.length) : (Lib.byteCells l)[j]? = some (.int .u8 (((l.getD j 0).toNat : Nat) : Int)) := by
  simp [Lib.byteCells, List.getD_eq_getElem?_getD, h]
theorem byteCells_one (l : List UInt8) : ∀ u ∈ Lib.byteCells l, u.oneCell' = true := by
  intro u hu
  simp only [Lib.byteCells, List.mem_map] at hu
  obtain ⟨o, _, rfl⟩ := hu
  rfl
theorem info5 : (Try.prog.info? 5).map (fun i => (i.zero, i.size, i.bytes)) = some (some (.int .u8 0), 1, 1) := by kernel_rfl

/-- The octets 'l' lie where the slice leads (a slice of no octets may lead nowhere). -/
def BytesAt (w : World) (a : Option Addr) (l : List UInt8) : Prop :=
  l = [] ∨ ∃ b off, a = some ⟨b, off, none⟩ ∧ b < w.heap.size ∧ ∀ j, j < l.length → w.cell? ⟨b, off + j, none⟩ = some (.int .u8 (((l.getD j 0).toNat : Nat) : Int))
theorem BytesAt.at {w : World} {a : Option Addr} {l : List UInt8} (h : BytesAt w a l) (k : Nat) (hk : k < l.length) :
    ∃ b off, a = some ⟨b, off, none⟩ ∧ b < w.heap.size ∧ ∀ j, j < l.length → w.cell? ⟨b, off + j, none⟩ = some (.int .u8 (((l.getD j 0).toNat : Nat) : Int)) := by
  rcases h with rfl | h
  · simp at hk
  · exact h
theorem BytesAt.below {w w' : World} {a : Option Addr} {l : List UInt8} (h : BytesAt w a l) (hb : Below w.heap.size w w') : BytesAt w' a l := by
  rcases h with rfl | ⟨b, off, e, hl, hc⟩
  · exact .inl rfl
  · exact .inr ⟨b, off, e, Nat.lt_of_lt_of_le hl hb.size, fun j hj => by rw [hb.cell (p := ⟨b, off + j, none⟩) hl]; exact hc j hj⟩
theorem BytesAt.slide {w : World} {a : Option Addr} {x y : List UInt8} (h : BytesAt w a (x ++ y)) : BytesAt w (Option.map (fun p => p.add x.length) a) y := by
  rcases h with e | ⟨b, off, e, hl, hc⟩
  · exact .inl (List.append_eq_nil_iff.1 e).2
  · subst e
    have hadd : (⟨b, off, none⟩ : Addr).add x.length = ⟨b, off + x.length, none⟩ := by unfold Addr.add; split <;> simp_all
    simp only [Option.map_some, hadd]
    refine .inr ⟨b, off + x.length, rfl, hl, fun j hj => ?_⟩
    rw [Nat.add_assoc, hc (x.length + j) (by rw [List.length_append]; omega)]
    have hnl : ¬ x.length + j < x.length := by omega
    simp [List.getD_eq_getElem?_getD, List.getElem?_append, hnl]
theorem BytesAt.left {w : World} {a : Option Addr} {x y : List UInt8} (h : BytesAt w a (x ++ y)) : BytesAt w a x := by
  rcases h with e | ⟨b, off, e, hl, hc⟩
  · exact .inl (List.append_eq_nil_iff.1 e).1
  · refine .inr ⟨b, off, e, hl, fun j hj => ?_⟩
    rw [hc j (by rw [List.length_append]; omega)]
    simp [List.getD_eq_getElem?_getD, List.getElem?_append, hj]

/-- The slice value v owns the octets l. -/
def Owns (w : World) (base : Nat) (v : Value) (l : List UInt8) : Prop := w.ownsRow base 5 1 v l.length (Lib.byteCells l)
theorem Owns.form {w : World} {base : Nat} {v : Value} {l : List UInt8} (h : Owns w base v l) :
    ∃ a cap, v = .slice a l.length cap ∧ l.length ≤ cap ∧ cap ≤ maxLen ∧ BytesAt w a l ∧ (a = none → l = [] ∧ cap = 0) ∧ (∀ x, a = some x → base ≤ x.block ∧ x.block < w.heap.size) := by
  rcases h.2 with ⟨rfl, h0⟩ | ⟨g, cap, cur, rfl, hb, hg, hn, hm, _, htake⟩
  · have : l = [] := List.eq_nil_of_length_eq_zero h0
    subst this
    exact ⟨none, 0, rfl, Nat.le_refl _, by unfold maxLen; omega, .inl rfl, fun _ => ⟨rfl, rfl⟩, fun x hx => by simp at hx⟩
  · have hgl : g < w.heap.size := (Array.getElem?_eq_some_iff.1 hg).1
    refine ⟨_, cap, rfl, hn, hm, .inr ⟨g, 0, rfl, hgl, fun j hj => ?_⟩, fun hx => by simp at hx, fun x hx => ?_⟩
    · rw [Nat.zero_add, cell_of_row w g j cur 5 (0, 0) hg, ← byteCells_get l j hj, ← htake, List.getElem?_take, if_pos (by omega)]
      simp
    · simp only [Option.some.injEq] at hx
      subst hx
      exact ⟨hb, hgl⟩
theorem Owns.nil (w : World) (base : Nat) : Owns w base (.slice none 0 0) [] := World.ownsRow_nil _ _ _ _
theorem one_new (w : World) (x : Value) (t : TypeId) : ∀ j u, [x][j]? = some u → (w.alloc (.cells #[x] t)).cell? ((⟨w.heap.size, 0, none⟩ : Addr).add j) = some u := by
  intro j u hj
  have hadd : (⟨w.heap.size, 0, none⟩ : Addr).add j = ⟨w.heap.size, j, none⟩ := by unfold Addr.add; split <;> simp_all
  rw [hadd, cell_of_row _ _ j _ t (0, 0) (heap_alloc_last w _)]
  simpa using hj
theorem below_draws {B : Nat} {a w : World} (h : Below B a w) (n : Nat) : Below B a (w.drewN n) := ⟨h.os, h.tape, h.output, h.size, h.block⟩

/-! ### A CSV at block D: its two fields -/
def CsvAt (w : World) (D : Nat) (v : Value) (il : Bool) : Prop := w.heap[D]? = some (.cells #[v, .bool il] 39 (0, 0))
theorem CsvAt.lt {w : World} {D : Nat} {v : Value} {il : Bool} (h : CsvAt w D v il) : D < w.heap.size := lt_of_block h
theorem CsvAt.cells {w : World} {D : Nat} {v : Value} {il : Bool} (h : CsvAt w D v il) : w.cell? ⟨D, 0, none⟩ = some v ∧ w.cell? ⟨D, 1, none⟩ = some (.bool il) :=
  ⟨by rw [cell_of_row w D 0 _ 39 (0, 0) h]; rfl, by rw [cell_of_row w D 1 _ 39 (0, 0) h]; rfl⟩
theorem CsvAt.free {w : World} {D : Nat} {v : Value} {il : Bool} (h : CsvAt w D v il) (j : Nat) : w.frozen? ⟨D, j, none⟩ = false := frozen_of_row w D j _ 39 h
theorem CsvAt.apart {w : World} {D base n : Nat} {v v1 : Value} {il : Bool} {xs : List Value} (h : CsvAt w D v1 il) (ho : w.ownsRow base 5 1 v n xs) : v.ownBlock ≠ some D := by
  rcases ho.2 with ⟨rfl, _⟩ | ⟨g, cap, cur, rfl, _, hg, _⟩
  · simp [Value.ownBlock]
  · intro he
    simp only [Value.ownBlock, Option.some.injEq] at he
    subst he
    unfold CsvAt at h
    rw [h] at hg
    simp at hg
/-- The whole state of a CSV being written, since the world w0, where its buffer was v0: what it holds; below 'base' nothing has turned; above, nothing but its own block and the buffer's. -/
structure Csv (w0 : World) (v0 : Value) (w : World) (base D : Nat) (v : Value) (il : Bool) (l : List UInt8) : Prop where
  at_ : CsvAt w D v il
  owns : Owns w base v l
  below : Below base w0 w
  keep : ∀ k, k < w0.heap.size → k ≠ D → v0.ownBlock ≠ some k → w.heap[k]? = w0.heap[k]?
/-- The buffer v lies where v0 lay, or in memory made since w0. -/
def Lies (w0 : World) (v0 v : Value) : Prop := v.ownBlock = v0.ownBlock ∨ ∃ g, v.ownBlock = some g ∧ w0.heap.size ≤ g
theorem Lies.refl (w0 : World) (v : Value) : Lies w0 v v := .inl rfl
theorem lies_at {w0 wa : World} {v0 v : Value} (hle : w0.heap.size ≤ wa.heap.size) (h : v.ownBlock = v0.ownBlock ∨ v.ownBlock = some wa.heap.size) : Lies w0 v0 v :=
  h.elim (fun e => .inl e) (fun e => .inr ⟨_, e, hle⟩)
theorem Lies.andThen {w0 w1 : World} {v0 v1 v2 : Value} (h : Lies w0 v0 v1) (hs : w0.heap.size ≤ w1.heap.size) (h' : Lies w1 v1 v2) : Lies w0 v0 v2 := by
  rcases h' with e | ⟨g, e, hg⟩
  · rcases h with e' | ⟨g, e', hg⟩
    · exact .inl (e.trans e')
    · exact .inr ⟨g, e.trans e', hg⟩
  · exact .inr ⟨g, e, by omega⟩
theorem Csv.andThen {w0 w1 w2 : World} {base D : Nat} {v0 v1 v2 : Value} {il il' : Bool} {l l' : List UInt8} (h : Csv w0 v0 w1 base D v1 il l) (hl : Lies w0 v0 v1) (h' : Csv w1 v1 w2 base D v2 il' l') : Csv w0 v0 w2 base D v2 il' l' :=
  ⟨h'.at_, h'.owns, h.below.trans h'.below, fun k hk hD hv => by
    rw [h'.keep k (by have := h.below.size; omega) hD (by
      rcases hl with e | ⟨g, e, hg⟩
      · rw [e]; exact hv
      · rw [e]; intro he; simp only [Option.some.injEq] at he; omega)]
    exact h.keep k hk hD hv⟩
/-- Behind an append to the buffer and the store of it, outside the walk. -/
theorem csv_after {D base : Nat} {w wa w1 : World} {v v' : Value} {l r : List UInt8} {il : Bool} {news : List Value} (h : CsvAt w D v il) (hown : Owns w base v l) (hn : news = Lib.byteCells r)
    (hwa : ∀ k, k < w.heap.size → wa.heap[k]? = w.heap[k]?) (hwb : Below base w wa) (hbase : base ≤ wa.heap.size) (hbD : base ≤ D) (hown' : w1.ownsRow base 5 1 v' (l.length + r.length) (Lib.byteCells l ++ news)) (hg : wa.grownBy w1 v.ownBlock) :
    (∃ a' n' c', v' = .slice a' n' c') ∧ w1.cell? ⟨D, 0, none⟩ = some v ∧ w1.frozen? ⟨D, 0, none⟩ = false ∧ Hid (Csv w v (w1.setCell ⟨D, 0, none⟩ v') base D v' il (l ++ r)) := by
  subst hn
  have hO : Owns w1 base v' (l ++ r) := by
    unfold Owns
    rw [List.length_append, Lib.byteCells_append]
    exact hown'
  have hd1 : CsvAt w1 D v il := by
    unfold CsvAt
    rw [hg.block D (by have := h.lt; have := hwb.size; omega) (fun e => h.apart hown e.symm), hwa D h.lt]
    exact h
  obtain ⟨a', c', e', _⟩ := hO.form
  refine ⟨⟨a', _, c', e'⟩, hd1.cells.1, hd1.free 0, ?_⟩
  exact ⟨heap_setCell_same w1 D 0 _ 39 v' hd1, ownsRow_setCell_other hO (hd1.apart hO) _, (hwb.grown hg hbase (fun k hk => (hown.lt k hk).1)).setCell hbD _, fun k hk hD hv => by
    rw [heap_setCell_other w1 ⟨D, 0, none⟩ k v' hD, hg.block k (by have := hwb.size; omega) (fun e => hv e.symm), hwa k hk]⟩
end Go.Proofs.Qxb6603138a
