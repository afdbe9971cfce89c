/-
  Plain facts on the table of status texts, checked by the kernel's reckoning.
-/
import Derived.Test.YtgnhgbfdelambaaText
import Derived.Below
import Derived.SizedLaws
import Derived.ShutString
import Derived.ChangeOld
import Derived.Lib.Strings
namespace Go.Proofs.Ytgnhgbfdelambaa
open Go.RowKit

theorem own : ownKnob Try.prog.godebug = none := by kernel_rfl
theorem laidOut : laidOutB Try.prog = true := by kernel_rfl
theorem ret_bool {a b : Bool} (h : a = b) : Ending.returned (.bool a) = .returned (.bool b) := by rw [h]

theorem codes_full : (codes.all fun c => !(stat c).isEmpty) = true := by decide +kernel
theorem codes_apart : (codes.all fun c => codes.all fun d => c == d || !(stat c == stat d)) = true := by decide +kernel
theorem codes_range : (codes.all fun c => decide (100 ≤ c) && decide (c ≤ 599)) = true := by decide +kernel
theorem full_of {c : Int} (h : c ∈ codes) : stat c ≠ [] := by
  have := List.all_eq_true.1 codes_full c h
  intro e
  rw [e] at this
  simp at this
theorem stat_apart {c d : Int} (hcd : c ≠ d) (h : stat c ≠ []) : stat c ≠ stat d := by
  have hc : c ∈ codes := by
    by_cases hc : c ∈ codes
    · exact hc
    · exact absurd (stat_none hc) h
  by_cases hd : d ∈ codes
  · have := List.all_eq_true.1 (List.all_eq_true.1 codes_apart c hc) d hd
    intro e
    rw [e] at this
    simp [hcd] at this
  · rw [stat_none hd]
    exact h
theorem stat_outside {c : Int} (h : c < 100 ∨ 599 < c) : stat c = [] := by
  apply stat_none
  intro hc
  have := List.all_eq_true.1 codes_range c hc
  simp at this
  omega
theorem stat_hundreds (c : Int) (h0 : 100 ≤ c) (h1 : c ≤ 599) : stat (c / 100 * 100) ≠ [] := by
  have h : c / 100 = 1 ∨ c / 100 = 2 ∨ c / 100 = 3 ∨ c / 100 = 4 ∨ c / 100 = 5 := by omega
  rcases h with h | h | h | h | h <;> rw [h] <;> decide

theorem size_mk (l : List UInt8) : (⟨l.toArray⟩ : ByteArray).size = l.length := rfl
theorem list_ne {u : ByteArray} (h : u.data.toList ≠ []) : (u.toList == []) = false := by
  rw [Lib.toList_data, beq_eq_false_iff_ne]
  exact h
theorem list_ne' {u : ByteArray} (h : u.data.toList ≠ []) : u.toList.isEmpty = false := by
  have := list_ne h
  simpa using this

/-- the byte at a place, as a number -/
def bt (l : List UInt8) (j : Nat) : Int := ((l[j]?.getD 0).toNat : Int)
/-- the byte ahead of a place; a space ahead of the first one -/
def pv (l : List UInt8) (k : Nat) : Int := if k = 0 then 32 else bt l (k - 1)
/-- a letter, a hyphen, an apostrophe, or a space behind no space -/
def chrB (x p : Int) : Bool := (decide (65 ≤ x) && decide (x ≤ 90)) || (decide (97 ≤ x) && decide (x ≤ 122)) || x == 45 || x == 39 || (x == 32 && p != 32)
def wordsB (l : List UInt8) : Bool := (List.range l.length).all (fun k => chrB (bt l k) (pv l k)) && pv l l.length != 32 && decide (65 ≤ bt l 0) && decide (bt l 0 ≤ 90)
theorem codes_words : (codes.all fun c => wordsB (stat c)) = true := by decide +kernel
theorem words_of {c : Int} (h : stat c ≠ []) : (∀ k, k < (stat c).length → chrB (bt (stat c) k) (pv (stat c) k) = true) ∧ pv (stat c) (stat c).length ≠ 32 ∧ 65 ≤ bt (stat c) 0 ∧ bt (stat c) 0 ≤ 90 := by
  have hc : c ∈ codes := by
    by_cases hc : c ∈ codes
    · exact hc
    · exact absurd (stat_none hc) h
  have := List.all_eq_true.1 codes_words c hc
  simp only [wordsB, Bool.and_eq_true, List.all_eq_true, List.mem_range, bne_iff_ne, decide_eq_true_eq] at this
  exact ⟨this.1.1.1, this.1.1.2, this.1.2, this.2⟩
theorem chr_cases {x p : Int} (h : chrB x p = true) : (65 ≤ x ∧ x ≤ 90) ∨ (97 ≤ x ∧ x ≤ 122) ∨ x = 45 ∨ x = 39 ∨ (x = 32 ∧ p ≠ 32) := by
  simp [chrB] at h
  omega
end Go.Proofs.Ytgnhgbfdelambaa
