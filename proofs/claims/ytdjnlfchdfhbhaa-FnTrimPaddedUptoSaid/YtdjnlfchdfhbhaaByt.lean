/-
  What textproto.TrimBytes and impl.TrimBytes return. Condition: at most 2 to the 47 bytes.
-/
import Derived.Test.YtdjnlfchdfhbhaaStr
namespace Go.Proofs.Ytdjnlfchdfhbhaa
open Go.RowKit

theorem Try.info5 : (Try.prog.info? 5).map (fun i => (i.zero, i.size, i.bytes)) = some (some (.int .u8 0), 1, 1) := by kernel_rfl

/-- how long a slice is that stands in a slot -/
def slLen : Value → Nat
  | .slice _ n _ => n
  | _ => 0

/-- a part of the bytes is handed back, nothing is written -/
def Parts (w : World) (o : List UInt8) (e : Ending) (w' : World) : Prop := ∃ a n c, e = .returned (.slice a n c) ∧ BS w a n o ∧ n ≤ c ∧ w = w'

theorem snoc_of {l : List UInt8} (h : 0 < l.length) : ∃ m x, l = m ++ [x] :=
  ⟨l.dropLast, l.getLast (List.ne_nil_of_length_pos h), (List.dropLast_concat_getLast _).symm⟩
theorem bt_last {m : List UInt8} {y : UInt8} {j : Nat} (h : j = m.length) : bt (m ++ [y]) j = (y.toNat : Int) := by
  subst h
  simp [bt]

set_option maxHeartbeats 800000 in
theorem trimBytes_any (a : Option Addr) (n c : Nat) (l : List UInt8) (w : World) (h : BS w a n l) (hnc : n ≤ c) (hc : c ≤ 9223372036854775807) :
    Calls Try.prog 16 #[.slice a n c] w (Parts w (trim l)) := by
  have H := Lib.hid h
  clear h
  go_enter Try.func16, Try.ntmps16
  go_wp2
  go_loop [0] (fun v => ∃ a n c k, v = .slice a n c ∧ BS w a n k ∧ n ≤ c ∧ c ≤ 9223372036854775807 ∧ trimL l = trimL k) (fun v => slLen v)
  case atStart => exact ⟨a, n, c, l, rfl, H.out, hnc, hc, rfl⟩
  case round =>
    clear H hnc hc
    obtain ⟨a, n, c, k, rfl, hk, hnc, hc, htl⟩ := hrel
    have HT := Lib.hid htl
    clear htl
    by_cases hp : 0 < n
    · have hp' : (0 : Int) < (n : Int) := by omega
      obtain ⟨b, off, rfl, hb, hcell⟩ := hk.open_ hp
      have hc0 := hcell 0 hp
      simp only [Nat.add_zero] at hc0
      match k, hk with
      | [], hk => exact absurd hk.1 (by simp; omega)
      | x :: k, hk =>
        have hx : bt (x :: k) 0 = (x.toNat : Int) := rfl
        rw [hx] at hc0
        clear hx hcell
        have HK := Lib.hid hk
        have hkl := hk.1
        simp only [List.length_cons] at hkl
        have HKL := Lib.hid hkl
        clear hk hkl
        cases hsp : sp x with
        | true =>
          by_cases hc1 : c = 1
          · subst hc1
            obtain rfl : n = 1 := by omega
            go_wp2_with fail
            refine (ascii_yes x w hsp).mono ?_
            rintro e w' ⟨rfl, rfl⟩
            go_wp2
            go_round
            case rel => exact ⟨_, _, _, k, rfl, by rw [show k = [] from List.eq_nil_of_length_eq_zero (by have := HKL.out; omega)]; exact BS.empty _ _, by omega, by omega, by rw [HT.out, trimL_cons hsp]⟩
            case measure => simp [slLen]
          · go_wp2_with fail
            refine (ascii_yes x w hsp).mono ?_
            rintro e w' ⟨rfl, rfl⟩
            go_wp2
            go_round
            case rel => exact ⟨_, _, _, k, rfl, HK.out.tail, by omega, by omega, by rw [HT.out, trimL_cons hsp]⟩
            case measure => simp [slLen]; omega
        | false =>
          go_wp2_with fail
          refine (ascii_no x w hsp).mono ?_
          rintro e w' ⟨rfl, rfl⟩
          go_wp2
          have hu : trimL l = x :: k := by rw [HT.out, trimL_stop hsp]
          have HU := Lib.hid hu
          clear hu hc0
          go_loop [0] (fun v => ∃ a n c q, v = .slice a n c ∧ BS w a n q ∧ n ≤ c ∧ c ≤ 9223372036854775807 ∧ trimR (x :: k) = trimR q) (fun v => slLen v)
          case atStart => exact ⟨_, n, c, x :: k, rfl, HK.out, hnc, hc, rfl⟩
          case round =>
            obtain ⟨a2, n2, c2, q, rfl, hq, hnc2, hc2, htr⟩ := hrel
            have HR := Lib.hid htr
            clear htr
            by_cases hp2 : 0 < n2
            · have hp2' : (0 : Int) < (n2 : Int) := by omega
              have hl2 : n2 - 1 < n2 := by omega
              obtain ⟨b2, off2, rfl, hb2, hcell2⟩ := hq.open_ hp2
              have hce := hcell2 (n2 - 1) hl2
              obtain ⟨m, y, rfl⟩ := snoc_of (l := q) (by rw [hq.1]; exact hp2)
              have hml := hq.1
              simp only [List.length_append, List.length_cons, List.length_nil] at hml
              rw [bt_last (show n2 - 1 = m.length by omega)] at hce
              clear hcell2
              have HQ := Lib.hid hq
              clear hq hml
              cases hsq : sp y with
              | true =>
                go_wp2_with fail
                refine (ascii_yes y w hsq).mono ?_
                rintro e w' ⟨rfl, rfl⟩
                go_wp2
                go_round
                case rel => exact ⟨_, _, _, m, rfl, HQ.out.init, by omega, by omega, by rw [HR.out, trimR_snoc hsq]⟩
                case measure => simp [slLen]; omega
              | false =>
                go_wp2_with fail
                refine (ascii_no y w hsq).mono ?_
                rintro e w' ⟨rfl, rfl⟩
                go_wp2
                go_ret
                refine ⟨_, _, _, rfl, ?_, hnc2, rfl⟩
                unfold trim
                rw [HU.out, HR.out, trimR_stop hsq]
                exact HQ.out
            · obtain rfl : n2 = 0 := by omega
              have HQ := Lib.hid hq
              clear hq
              go_wp2
              go_ret
              refine ⟨_, _, _, rfl, ?_, hnc2, rfl⟩
              have e := HQ.out.1
              have HQ2 := HQ.out
              rw [List.eq_nil_of_length_eq_zero e] at HQ2
              unfold trim
              rw [HU.out, HR.out, List.eq_nil_of_length_eq_zero e]
              exact HQ2
    · obtain rfl : n = 0 := by omega
      have HK := Lib.hid hk
      clear hk
      go_wp2
      refine wp_loop_rounds 1 ?_
      rw [rounds_succ]
      go_wp2
      go_ret
      refine ⟨_, _, _, rfl, ?_, hnc, rfl⟩
      have e := HK.out.1
      have HK2 := HK.out
      rw [List.eq_nil_of_length_eq_zero e] at HK2
      unfold trim
      rw [HT.out, List.eq_nil_of_length_eq_zero e]
      exact HK2

/-- impl.TrimBytes -/
theorem ibytes_any (a : Option Addr) (n c : Nat) (l : List UInt8) (w : World) (h : BS w a n l) (hn : n ≤ 140737488355328) :
    Calls Try.prog 13 #[.slice a n c] w (Hands w (trim l).length (trim l)) := by
  obtain ⟨i0, hi0, hz0, hz1, hz2⟩ := info_parts Try.info5
  have ho0 : (w.alloc (.cells #[] 5)).ownsRow w.heap.size 5 1 (.slice (some ⟨w.heap.size, 0, none⟩) 0 0) 0 (bvs []) := own_new w 5 [] _ (Nat.le_refl _) (by decide)
  have ho1 : ((w.alloc (.cells #[] 5)).alloc (.cells #[] 5)).ownsRow (w.heap.size + 1) 5 1 (.slice (some ⟨w.heap.size + 1, 0, none⟩) 0 0) 0 (bvs []) := by
    have := own_new (w.alloc (.cells #[] 5)) 5 [] (w.heap.size + 1) (by simp) (by decide)
    simp only [World.size_alloc] at this
    exact this
  have ho0' := ho0.alloc (.cells #[] 5)
  clear ho0
  have hle := trim_le l
  rw [h.1] at hle
  go_enter Try.func13, Try.ntmps13
  go_wp2_with (at_builtin; refine wpList_append_bs _ rfl (.tmp 4) (.tmp 5) 25 rfl (w.heap.size + 1) 5 i0 (.int .u8 0) Try.underlying25 hi0 hz0 hz1 hz2 rfl _ 0 [] rfl ho1 a n c l rfl ((h.alloc _).alloc _) (by omega) (by simp) ?_; intro a1 c1 w1 ho2 hs1 hc1 hm1 hb1)
  simp only [Nat.zero_add, List.nil_append] at hs1 hc1
  have hz := hb1.size
  simp at hz
  have ho3 := own_at_below ho0' hb1 (by omega)
  have hbw : Below w.heap.size w w1 := (((Below.refl _ _).alloc (Nat.le_refl _) _).alloc (by simp) _).trans (hb1.mono (by omega))
  clear ho2 ho1 ho0'
  unfold maxLen at hm1
  refine (trimBytes_any a1 n c1 l w1 hs1 hc1 hm1).mono ?_
  rintro e w2 ⟨a2, n2, c2, rfl, hs2, hc2, rfl⟩
  have hl2 : (trim l).length = n2 := hs2.1
  go_wp2_with (at_builtin; refine wpList_append_bs _ rfl (.tmp 3) (.tmp 7) 25 rfl w.heap.size 5 i0 (.int .u8 0) Try.underlying25 hi0 hz0 hz1 hz2 rfl _ 0 [] rfl ho3 a2 n2 c2 (trim l) rfl hs2 (by omega) (by omega) ?_; intro a3 c3 w3 ho4 hs3 hc3 hm3 hb3)
  go_ret
  simp only [Nat.zero_add, List.nil_append] at hs3 hc3
  exact ⟨a3, c3, by simp [hl2], by rw [hl2]; exact hs3, hbw.trans hb3, by rw [hl2]; exact hc3⟩
end Go.Proofs.Ytdjnlfchdfhbhaa
