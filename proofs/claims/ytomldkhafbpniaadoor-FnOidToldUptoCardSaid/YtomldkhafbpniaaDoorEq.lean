/-
  What slices.Equal, ObjectIdentifier.Equal, impl.OidEqual return: whether the numbers are the same.
-/
import Derived.Test.YtomldkhafbpniaaDoorInt
import Derived.Test.YtomldkhafbpniaaDoorOwn
import Derived.WalkLawsBesides
import Derived.Outline
import Derived.LoopN
import Derived.Deep.QuietTactic
import Derived.BigQuiet
namespace Go.Proofs.YtomldkhafbpniaaDoor
open Go.RowKit

theorem same_ends {z y : List Int} {n : Nat} (hz : z.length = n) (hy : y.length = n) (h : ∀ j, j < n → zt z j = zt y j) : (true : Bool) = (z == y) := by
  rw [zt_ext (by omega) (fun j hj => h j (by omega))]; simp
theorem diff_at {z y : List Int} {k : Nat} (h : zt z k ≠ zt y k) : (false : Bool) = (z == y) := by
  have : z ≠ y := fun e => h (by rw [e])
  simpa using this
theorem diff_len {z y : List Int} (h : z.length ≠ y.length) : (false : Bool) = (z == y) := by
  have : z ≠ y := fun e => h (by rw [e])
  simpa using this

theorem all_succ {P : Nat → Prop} {k : Nat} (h : ∀ j, j < k → P j) (hk : P k) : ∀ j, j < k + 1 → P j := by
  intro j hj
  rcases Nat.lt_or_ge j k with h1 | h1
  · exact h j h1
  · obtain rfl : j = k := by omega
    exact hk

set_option maxHeartbeats 800000 in
theorem equal_any (a b : Option Addr) (n m c d : Nat) (z y : List Int) (w : World) (h1 : IS w a n z) (h2 : IS w b m y) (hn : n ≤ 4611686018427387904) (hm : m ≤ 4611686018427387904) :
    Calls Tryd.prog 19 #[.slice a n c, .slice b m d] w fun e w' => e = .returned (.bool (z == y)) ∧ Below w.heap.size w w' := by
  have HZ := Lib.hid h1.1
  have HY := Lib.hid h2.1
  by_cases hne : n = m
  · subst hne
    have hq : ((n : Int) != (n : Int)) = false := by simp
    go_enter Tryd.func19, Tryd.ntmps19
    go_wp2
    go_loopw [5, 13] (fun _ i wr => ∃ k : Nat, k ≤ n ∧ i = .int .i64 (k : Int) ∧ (∀ j, j < k → zt z j = zt y j) ∧ Below w.heap.size w wr) (fun _ i _ => n - (intOf i).toNat)
    case atStart => exact ⟨0, by omega, rfl, fun j hj => absurd hj (by omega), Below.refl _ _⟩
    case round =>
      obtain ⟨k, hk, rfl, hall, hb⟩ := hrel
      have HA := Lib.hid hall
      clear hall
      by_cases hlt : k < n
      · obtain ⟨b1, o1, rfl, hb1, hc1⟩ := (h1.below hb).open_ (by omega)
        obtain ⟨b2, o2, rfl, hb2, hc2⟩ := (h2.below hb).open_ (by omega)
        have e1 := hc1 k hlt
        have e2 := hc2 k hlt
        have hlt' : (k : Int) < (n : Int) := by omega
        clear hc1 hc2
        by_cases heq : zt z k = zt y k
        · have hq2 : (zt z k != zt y k) = false := by simp [heq]
          have HEQ := Lib.hid heq
          clear heq
          go_wp2
          go_quiet (fail)
          go_wp2
          go_roundw
          case rel => exact ⟨k + 1, by omega, by go_num, all_succ HA.out HEQ.out, below_drewN hb _⟩
          case measure => simp [intOf]; omega
        · have hq2 : (zt z k != zt y k) = true := by simpa using heq
          go_wp2
          go_quiet (fail)
          go_wp2
          go_ret
          exact ⟨ret_bool (diff_at heq), below_drewN hb _⟩
      · obtain rfl : k = n := by omega
        go_wp2
        go_ret
        exact ⟨ret_bool (same_ends HZ.out HY.out HA.out), hb⟩
  · have hq : ((n : Int) != (m : Int)) = true := by simp; omega
    go_enter Tryd.func19, Tryd.ntmps19
    go_wp2
    go_ret
    exact ⟨ret_bool (diff_len (by rw [HZ.out, HY.out]; exact hne)), Below.refl _ _⟩

/-- ObjectIdentifier.Equal -/
theorem oidEqual_any (a b : Option Addr) (n m c d : Nat) (z y : List Int) (w : World) (h1 : IS w a n z) (h2 : IS w b m y) (hn : n ≤ 4611686018427387904) (hm : m ≤ 4611686018427387904) :
    Calls Tryd.prog 13 #[.slice a n c, .slice b m d] w fun e w' => e = .returned (.bool (z == y)) ∧ Below w.heap.size w w' := by
  go_enter Tryd.func13, Tryd.ntmps13
  go_wp2_with fail
  refine (equal_any a b n m c d z y w h1 h2 hn hm).mono ?_
  rintro e w1 ⟨rfl, hb1⟩
  go_wp2
  go_ret
  exact ⟨rfl, hb1⟩
/-- impl.OidEqual -/
theorem ioid_any (a b : Option Addr) (n m c d : Nat) (z y : List Int) (w : World) (h1 : IS w a n z) (h2 : IS w b m y) (hn : n ≤ 4611686018427387904) (hm : m ≤ 4611686018427387904) :
    Calls Tryd.prog 10 #[.slice a n c, .slice b m d] w fun e w' => e = .returned (.bool (z == y)) ∧ Below w.heap.size w w' := by
  go_enter Tryd.func10, Tryd.ntmps10
  go_wp2_with fail
  refine (oidEqual_any a b n m c d z y w h1 h2 hn hm).mono ?_
  rintro e w1 ⟨rfl, hb1⟩
  go_wp2
  go_ret
  exact ⟨rfl, hb1⟩
end Go.Proofs.YtomldkhafbpniaaDoor
