import Derived.Test.Qxb6602670aTab
import Derived.OpenShut
namespace Go.Proofs.Qxb6602670a
open Go.RowKit

/-- The octets 'l' lie where the slice leads (a slice of no octets may lead nowhere). -/
def BytesAt (w : World) (a : Option Addr) (l : List Nat) : Prop :=
  (∀ o ∈ l, o < 256) ∧ (l = [] ∨ ∃ b off, a = some ⟨b, off, none⟩ ∧ b < w.heap.size ∧ ∀ j, j < l.length → w.cell? ⟨b, off + j, none⟩ = some (.int .u8 (l.getD j 0 : Nat)))

theorem BytesAt.lt {w : World} {a : Option Addr} {l : List Nat} (h : BytesAt w a l) (k : Nat) : l.getD k 0 < 256 := by
  rw [List.getD_eq_getElem?_getD]
  cases e : l[k]? with
  | none => simp
  | some o => exact h.1 o (List.mem_of_getElem? e)

theorem BytesAt.at {w : World} {a : Option Addr} {l : List Nat} (h : BytesAt w a l) (k : Nat) (hk : k < l.length) :
    ∃ b off, a = some ⟨b, off, none⟩ ∧ b < w.heap.size ∧ ∀ j, j < l.length → w.cell? ⟨b, off + j, none⟩ = some (.int .u8 (l.getD j 0 : Nat)) := by
  rcases h.2 with rfl | h
  · simp at hk
  · exact h

theorem BytesAt.below {w w' : World} {a : Option Addr} {l : List Nat} (h : BytesAt w a l) (hb : Below w.heap.size w w') : BytesAt w' a l := by
  refine ⟨h.1, ?_⟩
  rcases h.2 with rfl | ⟨b, off, e, hl, hc⟩
  · exact .inl rfl
  · exact .inr ⟨b, off, e, Nat.lt_of_lt_of_le hl hb.size, fun j hj => by rw [hb.cell (p := ⟨b, off + j, none⟩) hl]; exact hc j hj⟩

/-- What the shell tells of a slice of octets that came in, in these words. -/
theorem bytes_of_row {w : World} {a : Option Addr} {len cap : Nat} {zs : List Int}
    (h : (a = none ∧ len = 0 ∧ cap = 0 ∧ zs = []) ∨
      ∃ x, a = some x ∧ len ≤ cap ∧ cap ≤ maxLen ∧ zs.length = cap ∧ (∀ i, i < zs.length → w.cell? (x.add i) = some (.int .u8 (zs.getD i 0))) ∧ ∀ n ∈ zs, (Lit.int .u8 n).wf = true) :
    ∃ l : List Nat, l.length = len ∧ len ≤ cap ∧ cap ≤ maxLen ∧ BytesAt w a l := by
  rcases h with ⟨rfl, rfl, rfl, rfl⟩ | ⟨x, rfl, hl, hm, hz, hc, hwf⟩
  · exact ⟨[], rfl, Nat.le_refl _, by unfold maxLen; omega, fun o ho => by simp at ho, .inl rfl⟩
  · have hlen : ((zs.take len).map Int.toNat).length = len := by simp; omega
    refine ⟨(zs.take len).map Int.toNat, hlen, hl, hm, fun o ho => ?_, ?_⟩
    · obtain ⟨z, hzm, rfl⟩ := List.mem_map.1 ho
      have := bounds_u8 (hwf z (List.mem_of_mem_take hzm))
      omega
    · by_cases hp : 0 < len
      · obtain ⟨b, off, rfl, hc'⟩ := ints_at hc (by omega)
        refine .inr ⟨b, off, rfl, World.block_lt_of_cell? w _ (hc' 0 (by omega)), fun j hj => ?_⟩
        rw [hlen] at hj
        rw [hc' j (by omega)]
        have hjz : j < zs.length := by omega
        have hb := bounds_u8 (hwf zs[j] (List.getElem_mem hjz))
        have e1 : zs.getD j 0 = zs[j] := by simp [List.getD_eq_getElem?_getD, hjz]
        have e2 : ((zs.take len).map Int.toNat).getD j 0 = zs[j].toNat := by
          simp [List.getD_eq_getElem?_getD, hjz, hj]
        rw [e1, e2, Int.toNat_of_nonneg hb.1]
      · refine .inl ?_
        obtain rfl : len = 0 := by omega
        simp

/-! ### The law's guard on lengths, at one slice -/
theorem zz11_yes (a : Option Addr) (len cap : Nat) (w : World) (h : len ≤ 1048576) :
    Calls Try.prog 11 #[.slice a len cap] w fun e w' => e = .returned (.bool true) ∧ w' = w := by
  have h1 : ¬ ((1048576 : Int) < (len : Int)) := by omega
  go_enter Try.func11, Try.ntmps11
  go_wp2
  go_ret
  exact ⟨rfl, rfl⟩
theorem zz11_no (a : Option Addr) (len cap : Nat) (w : World) (h : 1048576 < len) :
    Calls Try.prog 11 #[.slice a len cap] w fun e w' => e = .returned (.bool false) ∧ w' = w := by
  have h1 : ((1048576 : Int) < (len : Int)) := by omega
  go_enter Try.func11, Try.ntmps11
  go_wp2
  go_ret
  exact ⟨rfl, rfl⟩
end Go.Proofs.Qxb6602670a
