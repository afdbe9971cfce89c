/-
  What spec.Decimal returns for a digit, and what spec.Version and laws.rest return.
-/
import Derived.Test.YtminkllpfokokaaDoorVer
import Derived.RegionTactic
import Derived.Deep.QuietTactic
import Derived.BigQuiet
namespace Go.Proofs.YtminkllpfokokaaDoor
open Go.RowKit

theorem byte_back (w : World) (c : UInt8) (x : Int) (hx : x = (c.toNat : Int)) : (convert 30 9 (.slice (some ⟨w.heap.size, 0, none⟩) 1 1)).run Tryd.prog (w.alloc (.cells #[.int .u8 x] 5)) = .ok (.string ⟨#[c]⟩) (w.alloc (.cells #[.int .u8 x] 5)) := by
  subst hx
  refine run_convert_bytes_back (P := Tryd.prog) _ 30 9 5 ⟨w.heap.size, 0, none⟩ 1 [c] Tryd.underlying30 Tryd.underlying5 Tryd.underlying9 (fun j hj => ?_)
  obtain rfl : j = 0 := by simpa using hj
  simp [Addr.add]

/-- spec.Decimal of a digit's number is that digit -/
theorem dec_digit (c : UInt8) (n : Int) (w : World) (hc : dig c) (hn : n = (c.toNat : Int) - 48) :
    Calls Tryd.prog 8 #[.int .i64 n] w fun e w' => e = .returned (.string ⟨#[c]⟩) ∧ Below w.heap.size w w' := by
  obtain ⟨h0, h9⟩ := hc
  have n0 : 0 ≤ n := by omega
  have n9 : n < 10 := by omega
  have hb := byte_back w c (48 + n) (by omega)
  clear hn h0 h9
  go_enter Tryd.func8, Tryd.ntmps8
  go_wp2_with fail
  go_ret
  exact ⟨rfl, (Below.refl _ _).alloc (Nat.le_refl _) _⟩

theorem tmod_rest (x n : Int) (hn : 0 < n) : (x.tmod n + n) % n = x % n := by
  rw [Int.add_emod_right, Int.tmod_eq_emod]
  split
  · simp
  · rw [Int.sub_emod]; simp [Int.natAbs_of_nonneg (Int.le_of_lt hn)]
theorem ret_int {k : IntKind} {a b : Int} (h : a = b) : Ending.returned (.int k a) = .returned (.int k b) := by rw [h]
theorem ret_bool {a b : Bool} (h : a = b) : Ending.returned (.bool a) = .returned (.bool b) := by rw [h]
theorem rest_any (x n : Int) (w : World) (hx : -9223372036854775808 ≤ x ∧ x ≤ 9223372036854775807) (hn : 0 < n) (hm : n ≤ 4611686018427387904) :
    Calls Tryd.prog 9 #[.int .i64 x, .int .i64 n] w fun e w' => e = .returned (.int .i64 (x % n)) ∧ w = w' := by
  have h1 := Int.lt_tmod_of_pos x hn
  have h2 := Int.tmod_lt_of_pos x hn
  have hne : (n == 0) = false := by simp; omega
  go_enter Tryd.func9, Tryd.ntmps9
  go_wp2
  go_ret
  exact ⟨ret_int (tmod_rest x n hn), rfl⟩

theorem front_slice (s : ByteArray) (h : 5 ≤ s.size) (w : World) :
    (Instr.slice 9 (.string s) none (some (.int .i64 5)) none).run Tryd.prog w = .ok (.string (s.extract 0 5)) w := by
  have h5 : (5 : Int) ≤ (s.size : Int) := by omega
  go_simp

theorem sv_size (s : ByteArray) (w : World) (h8 : ((s.size : Int) != 8) = true) : Calls Tryd.prog 10 #[.string s] w (Vers w 0 0 false) := by
  go_enter Tryd.func10, Tryd.ntmps10
  go_wp2
  go_ret3
  exact ⟨rfl, Below.refl _ _⟩
theorem sv_front (s p : ByteArray) (w : World) (h8 : ((s.size : Int) != 8) = false) (hsl : ∀ u, (Instr.slice 9 (.string s) none (some (.int .i64 5)) none).run Tryd.prog u = .ok (.string p) u) (hp : (p.toList == [72, 84, 84, 80, 47]) = false) : Calls Tryd.prog 10 #[.string s] w (Vers w 0 0 false) := by
  go_enter Tryd.func10, Tryd.ntmps10
  go_wp2
  go_ret3
  exact ⟨rfl, Below.refl _ _⟩
theorem sv_major1 (s p : ByteArray) (w : World) (h8 : ((s.size : Int) != 8) = false) (hsl : ∀ u, (Instr.slice 9 (.string s) none (some (.int .i64 5)) none).run Tryd.prog u = .ok (.string p) u) (hp : (p.toList == [72, 84, 84, 80, 47]) = true) (h7s : 7 < s.size) (h5s : 5 < s.size) (h6s : 6 < s.size) (hd : (s[5].toNat : Int) < 48) : Calls Tryd.prog 10 #[.string s] w (Vers w 0 0 false) := by
  go_enter Tryd.func10, Tryd.ntmps10
  go_wp2
  go_ret3
  exact ⟨rfl, Below.refl _ _⟩
theorem sv_major2 (s p : ByteArray) (w : World) (h8 : ((s.size : Int) != 8) = false) (hsl : ∀ u, (Instr.slice 9 (.string s) none (some (.int .i64 5)) none).run Tryd.prog u = .ok (.string p) u) (hp : (p.toList == [72, 84, 84, 80, 47]) = true) (h7s : 7 < s.size) (h5s : 5 < s.size) (h6s : 6 < s.size) (hd0 : (48 : Int) ≤ (s[5].toNat : Int)) (hd : (57 : Int) < (s[5].toNat : Int)) : Calls Tryd.prog 10 #[.string s] w (Vers w 0 0 false) := by
  go_enter Tryd.func10, Tryd.ntmps10
  go_wp2
  go_ret3
  exact ⟨rfl, Below.refl _ _⟩
theorem sv_dot (s p : ByteArray) (w : World) (h8 : ((s.size : Int) != 8) = false) (hsl : ∀ u, (Instr.slice 9 (.string s) none (some (.int .i64 5)) none).run Tryd.prog u = .ok (.string p) u) (hp : (p.toList == [72, 84, 84, 80, 47]) = true) (h7s : 7 < s.size) (h5s : 5 < s.size) (h6s : 6 < s.size) (a0 : (48 : Int) ≤ (s[5].toNat : Int)) (a9 : (s[5].toNat : Int) ≤ 57) (h6 : ((s[6].toNat : Int) != 46) = true) : Calls Tryd.prog 10 #[.string s] w (Vers w 0 0 false) := by
  go_enter Tryd.func10, Tryd.ntmps10
  go_wp2
  go_ret3
  exact ⟨rfl, Below.refl _ _⟩
theorem sv_minor1 (s p : ByteArray) (w : World) (h8 : ((s.size : Int) != 8) = false) (hsl : ∀ u, (Instr.slice 9 (.string s) none (some (.int .i64 5)) none).run Tryd.prog u = .ok (.string p) u) (hp : (p.toList == [72, 84, 84, 80, 47]) = true) (h7s : 7 < s.size) (h5s : 5 < s.size) (h6s : 6 < s.size) (a0 : (48 : Int) ≤ (s[5].toNat : Int)) (a9 : (s[5].toNat : Int) ≤ 57) (h6 : ((s[6].toNat : Int) != 46) = false) (hd : (s[7].toNat : Int) < 48) : Calls Tryd.prog 10 #[.string s] w (Vers w 0 0 false) := by
  go_enter Tryd.func10, Tryd.ntmps10
  go_wp2
  go_ret3
  exact ⟨rfl, Below.refl _ _⟩
theorem sv_minor2 (s p : ByteArray) (w : World) (h8 : ((s.size : Int) != 8) = false) (hsl : ∀ u, (Instr.slice 9 (.string s) none (some (.int .i64 5)) none).run Tryd.prog u = .ok (.string p) u) (hp : (p.toList == [72, 84, 84, 80, 47]) = true) (h7s : 7 < s.size) (h5s : 5 < s.size) (h6s : 6 < s.size) (a0 : (48 : Int) ≤ (s[5].toNat : Int)) (a9 : (s[5].toNat : Int) ≤ 57) (h6 : ((s[6].toNat : Int) != 46) = false) (hd0 : (48 : Int) ≤ (s[7].toNat : Int)) (hd : (57 : Int) < (s[7].toNat : Int)) : Calls Tryd.prog 10 #[.string s] w (Vers w 0 0 false) := by
  have hdb : decide ((s[7].toNat : Int) ≤ 57) = false := by simp; omega
  go_enter Tryd.func10, Tryd.ntmps10
  go_wp2
  go_ret3
  exact ⟨rfl, Below.refl _ _⟩
theorem sv_both (s p : ByteArray) (w : World) (h8 : ((s.size : Int) != 8) = false) (hsl : ∀ u, (Instr.slice 9 (.string s) none (some (.int .i64 5)) none).run Tryd.prog u = .ok (.string p) u) (hp : (p.toList == [72, 84, 84, 80, 47]) = true) (h7s : 7 < s.size) (h5s : 5 < s.size) (h6s : 6 < s.size) (a0 : (48 : Int) ≤ (s[5].toNat : Int)) (a9 : (s[5].toNat : Int) ≤ 57) (h6 : ((s[6].toNat : Int) != 46) = false) (b0 : (48 : Int) ≤ (s[7].toNat : Int)) (b9 : (s[7].toNat : Int) ≤ 57) : Calls Tryd.prog 10 #[.string s] w (Vers w ((s[5].toNat : Int) - 48) ((s[7].toNat : Int) - 48) true) := by
  have i5 : (5 : Int) < (s.size : Int) := by omega
  have i7 : (7 : Int) < (s.size : Int) := by omega
  go_enter Tryd.func10, Tryd.ntmps10
  go_wp2
  go_quiet (fail)
  go_wp2
  go_ret3
  exact ⟨rfl, below_drewN (Below.refl _ _) _⟩

theorem front_eq (s : ByteArray) (p : List UInt8) : ((s.extract 0 5).toList == p) = decide (s.data.toList.take 5 = p) := by
  rw [Lib.extract_toList]
  exact Bool.eq_iff_iff.2 (by simp)

/-- spec.Version: a version -/
theorem sver_yes (s : ByteArray) (w : World) (a b : UInt8) (h : IsV s.data.toList a b) : Calls Tryd.prog 10 #[.string s] w (Vers w ((a.toNat : Int) - 48) ((b.toNat : Int) - 48) true) := by
  obtain ⟨hl, ⟨a0, a9⟩, b0, b9⟩ := h
  have hsz : s.size = 8 := by rw [← size_data, hl]; rfl
  have h5 : 5 < s.size := by rw [hsz]; decide
  have h6 : 6 < s.size := by rw [hsz]; decide
  have h7 : 7 < s.size := by rw [hsz]; decide
  have g5 := get_data s 5 h5
  have g6 := get_data s 6 h6
  have g7 := get_data s 7 h7
  rw [hl] at g5 g6 g7
  have e5 : a = s[5] := Option.some.inj g5
  have e6 : s[6] = 46 := (Option.some.inj g6).symm
  have e7 : b = s[7] := Option.some.inj g7
  rw [e5] at a0 a9
  rw [e7] at b0 b9
  rw [e5, e7]
  exact sv_both s _ w (by rw [hsz]; decide) (front_slice s (by omega)) (by rw [front_eq, hl]; simp) (by omega) (by omega) (by omega) a0 a9 (by rw [e6]; decide) b0 b9

/-- spec.Version: no version -/
theorem sver_no (s : ByteArray) (w : World) (h : ∀ a b, ¬ IsV s.data.toList a b) : Calls Tryd.prog 10 #[.string s] w (Vers w 0 0 false) := by
  by_cases hsz : s.size = 8
  · have h8 : ((s.size : Int) != 8) = false := by rw [hsz]; decide
    obtain ⟨c0, c1, c2, c3, c4, c5, c6, c7, hl⟩ := eight (by rw [size_data]; exact hsz)
    by_cases hp : s.data.toList.take 5 = [72, 84, 84, 80, 47]
    · have hp' : ((s.extract 0 5).toList == [72, 84, 84, 80, 47]) = true := by rw [front_eq]; simpa using hp
      rw [hl] at hp
      simp at hp
      obtain ⟨rfl, rfl, rfl, rfl, rfl⟩ := hp
      have g5 := get_data s 5 (by omega)
      have g6 := get_data s 6 (by omega)
      have g7 := get_data s 7 (by omega)
      rw [hl] at g5 g6 g7
      have e5 : c5 = s[5] := Option.some.inj g5
      have e6 : c6 = s[6] := Option.some.inj g6
      have e7 : c7 = s[7] := Option.some.inj g7
      by_cases ha : dig c5
      · obtain ⟨a0, a9⟩ := id ha
        rw [e5] at a0 a9
        by_cases h6 : ((s[6].toNat : Int) != 46) = true
        · exact sv_dot s _ w h8 (front_slice s (by omega)) hp' (by omega) (by omega) (by omega) a0 a9 h6
        · have h6' : ((s[6].toNat : Int) != 46) = false := by simpa using h6
          have e46 : c6 = 46 := by
            rw [e6]
            have : s[6].toNat = 46 := by simp at h6'; omega
            exact UInt8.toNat_inj.1 this
          subst e46
          by_cases hb : dig c7
          · exact absurd ⟨hl, ha, hb⟩ (h c5 c7)
          · unfold dig at hb
            rw [e7] at hb
            by_cases h48 : (s[7].toNat : Int) < 48
            · exact sv_minor1 s _ w h8 (front_slice s (by omega)) hp' (by omega) (by omega) (by omega) a0 a9 h6' h48
            · exact sv_minor2 s _ w h8 (front_slice s (by omega)) hp' (by omega) (by omega) (by omega) a0 a9 h6' (by omega) (by omega)
      · unfold dig at ha
        rw [e5] at ha
        by_cases h48 : (s[5].toNat : Int) < 48
        · exact sv_major1 s _ w h8 (front_slice s (by omega)) hp' (by omega) (by omega) (by omega) h48
        · exact sv_major2 s _ w h8 (front_slice s (by omega)) hp' (by omega) (by omega) (by omega) (by omega) (by omega)
    · exact sv_front s _ w h8 (front_slice s (by omega)) (by rw [front_eq]; simpa using hp)
  · exact sv_size s w (by rw [bne_iff_ne]; omega)
end Go.Proofs.YtminkllpfokokaaDoor
