/-
  The walk of laws.FnOidTold: it returns true for every input within the bound.
-/
import Derived.Test.YtomldkhafbpniaaDoorPlain
import Derived.Test.YtomldkhafbpniaaDoorEq
namespace Go.Proofs.YtomldkhafbpniaaDoor
open Go.RowKit Go.Lib

theorem text_beq (z y : List Int) : ((⟨(dotted z).toArray⟩ : ByteArray).toList == (⟨(dotted y).toArray⟩ : ByteArray).toList) = (z == y) := by
  rw [Lib.toList_data, Lib.toList_data]
  by_cases h : z = y
  · subst h; simp
  · have h2 : dotted z ≠ dotted y := fun e => h (dotted_inj e)
    rw [beq_eq_false_iff_ne.2 h]
    simpa using h2

set_option maxHeartbeats 1000000 in
theorem walk_fnOidTold (a b : Option Addr) (n m c d : Nat) (z y : List Int) (w : World) (h1 : IS w a n z) (h2 : IS w b m y) (hf : fitsI z) (hg : fitsI y) (hn : n + m ≤ 1048576) (htab : TabIs Tryd.prog w "internal/strconv.uint64pow10" .u64 pow10Tab) :
    Calls Tryd.prog 6 #[.slice a n c, .slice b m d] w fun e w' => e = .returned (.bool true) ∧ Below w.heap.size w w' := by
  have TB := tabBelow_of_tabIs htab
  have HX := Lib.hid (text_beq z y)
  have HZ := Lib.hid (show (z == z) = true by simp)
  generalize hE : (z == y) = E at HX
  have HE := Lib.hid hE
  clear hE
  cases E <;> (
    go_enter Tryd.func6, Tryd.ntmps6
    go_wp2_with (go_at_call 10; refine (ioid_any a b n m c d z y w h1 h2 (by omega) (by omega)).mono ?_)
    rintro e w1 ⟨he1, hb1⟩
    rw [HE.out] at he1
    subst he1
    go_wp2_with (go_at_call 7; refine (ioidString a n c z w1 (h1.below hb1) hf (by omega) (TB w1 hb1)).mono ?_)
    rintro e w2 ⟨he2, hb2⟩
    have hB2 := hb1.trans (hb2.mono hb1.size)
    generalize (⟨(dotted z).toArray⟩ : ByteArray) = T at he2 HX
    subst he2
    go_wp2_with (go_at_call 7; refine (ioidString b m d y w2 (h2.below hB2) hg (by omega) (TB w2 hB2)).mono ?_)
    rintro e w3 ⟨he3, hb3⟩
    have hB3 := hB2.trans (hb3.mono hB2.size)
    generalize (⟨(dotted y).toArray⟩ : ByteArray) = U at he3 HX
    subst he3
    have hTU := HX.out
    go_wp2_with (go_at_call 10; refine (ioid_any a a n n c c z z w3 (h1.below hB3) (h1.below hB3) (by omega) (by omega)).mono ?_)
    rintro e w4 ⟨he4, hb4⟩
    rw [HZ.out] at he4
    subst he4
    go_wp2
    go_ret
    exact ⟨rfl, hB3.trans (hb4.mono hB3.size)⟩)
end Go.Proofs.YtomldkhafbpniaaDoor
