/-
  The walk of laws.FnTrimInner: it returns true for every input.
-/
import Derived.Test.YtdjnlfchdfhbhaaByt
namespace Go.Proofs.Ytdjnlfchdfhbhaa
open Go.RowKit

theorem byte_back (w : World) (c : UInt8) : (convert 25 9 (.slice (some ⟨w.heap.size, 0, none⟩) 1 1)).run Try.prog (w.alloc (.cells #[.int .u8 (c.toNat : Int)] 5)) = .ok (.string ⟨#[c]⟩) (w.alloc (.cells #[.int .u8 (c.toNat : Int)] 5)) :=
  run_string_bs (P := Try.prog) 25 9 5 Try.underlying25 Try.underlying5 Try.underlying9 1 (BS.one w 5 c (c.toNat : Int) rfl)
theorem solid (a b : UInt8) (s : ByteArray) (ha : sp a = false) (hb : sp b = false) : trim ((⟨#[a]⟩ : ByteArray) ++ s ++ ⟨#[b]⟩).data.toList = ((⟨#[a]⟩ : ByteArray) ++ s ++ ⟨#[b]⟩).data.toList := by
  have := trim_solid a b s.data.toList ha hb
  simpa using this
theorem as_mk (s : ByteArray) : (⟨s.data.toList.toArray⟩ : ByteArray) = s := Lib.mk_data s
theorem u8_of (x : Int) (h : 0 ≤ x ∧ x ≤ 255) : ∃ c : UInt8, x = (c.toNat : Int) := ⟨UInt8.ofNat x.toNat, by rw [UInt8.toNat_ofNat']; omega⟩

set_option maxHeartbeats 400000 in
theorem walk_fnTrimInner (s : ByteArray) (x y : Int) (w : World) (hs : s.size ≤ 140737488351232) (hx : 0 ≤ x ∧ x ≤ 255) (hy : 0 ≤ y ∧ y ≤ 255) :
    Calls Try.prog 8 #[.string s, .int .u8 x, .int .u8 y] w fun e w' => e = .returned (.bool true) ∧ Below w.heap.size w w' := by
  obtain ⟨a, rfl⟩ := u8_of x hx
  obtain ⟨b, rfl⟩ := u8_of y hy
  cases ha : sp a with
  | true =>
    go_enter Try.func8, Try.ntmps8
    go_wp2_with fail
    refine (isSpace_yes a w ha).mono ?_
    rintro e w' ⟨rfl, rfl⟩
    go_wp2
    go_ret
    exact ⟨rfl, Below.refl _ _⟩
  | false =>
    cases hb : sp b with
    | true =>
      go_enter Try.func8, Try.ntmps8
      go_wp2_with fail
      refine (isSpace_no a w ha).mono ?_
      rintro e w' ⟨rfl, rfl⟩
      go_wp2_with fail
      refine (isSpace_yes b w hb).mono ?_
      rintro e w' ⟨rfl, rfl⟩
      go_wp2
      go_ret
      exact ⟨rfl, Below.refl _ _⟩
    | false =>
      have cv1 := byte_back w a
      have cv2 := byte_back (w.alloc (.cells #[.int .u8 (a.toNat : Int)] 5)) b
      simp only [World.size_alloc] at cv2
      have hsol := solid a b s ha hb
      have hsz : ((⟨#[a]⟩ : ByteArray) ++ s ++ ⟨#[b]⟩).size = s.size + 2 := by rw [ByteArray.size_append, ByteArray.size_append, one_size, one_size]; omega
      have hcv := fun u => run_bytes_of_string (P := Try.prog) u 9 25 5 ((⟨#[a]⟩ : ByteArray) ++ s ++ ⟨#[b]⟩) Try.underlying9 Try.underlying25 Try.underlying5
      have HSOL := Lib.hid hsol
      have HSZ := Lib.hid hsz
      have HCV := Lib.hid hcv
      clear hsol hsz hcv
      go_enter Try.func8, Try.ntmps8
      go_wp2_with fail
      refine (isSpace_no a w ha).mono ?_
      rintro e w' ⟨rfl, rfl⟩
      go_wp2_with fail
      refine (isSpace_no b w hb).mono ?_
      rintro e w' ⟨rfl, rfl⟩
      go_wp2_with fail
      generalize hT : (⟨#[a]⟩ : ByteArray) ++ s ++ ⟨#[b]⟩ = T
      have HT := Lib.hid hT
      clear hT
      have hTs : T.size ≤ 140737488351234 := by rw [← HT.out, HSZ.out]; omega
      have hTt : trim T.data.toList = T.data.toList := by rw [← HT.out]; exact HSOL.out
      have HTT := Lib.hid hTt
      clear hTt
      refine (itrim_any T _ (by omega)).mono ?_
      rintro e w1 ⟨he, hw⟩
      rw [HTT.out, as_mk] at he
      subst he
      have hb1 : Below w.heap.size w w1 := by rw [← hw]; exact ((Below.refl _ _).alloc (Nat.le_refl _) _).alloc (by simp) _
      clear hw cv1 cv2
      have hcv2 := fun u => run_bytes_of_string (P := Try.prog) u 9 25 5 T Try.underlying9 Try.underlying25 Try.underlying5
      go_wp2_with fail
      refine (ibytes_any _ T.size _ T.data.toList _ (by exact BS.of_bytes w1 T _ _ _) (by omega)).mono ?_
      rintro e w2 ⟨a1, c1, he, hs1, hb2, hc1⟩
      rw [HTT.out, size_data] at hs1 he
      have e1 := run_string_bs (P := Try.prog) 25 9 5 Try.underlying25 Try.underlying5 Try.underlying9 c1 hs1
      rw [as_mk] at e1
      have hbb : Below w1.heap.size w1 w2 := (((Below.refl _ _).alloc (Nat.le_refl _) _).drew).trans (hb2.mono (by simp))
      subst he
      clear hcv2 hs1 hb2
      go_wp2
      go_ret
      exact ⟨ret_bool (by simp), hb1.trans (hbb.mono hb1.size)⟩
end Go.Proofs.Ytdjnlfchdfhbhaa
