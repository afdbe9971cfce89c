/-
  The walk of laws.FnTrimPadded: it returns true where the text and the two lists have at most 1048576 bytes each.
-/
import Derived.Test.YtdjnlfchdfhbhaaBlank
import Derived.Deep.RegionHeld3
namespace Go.Proofs.Ytdjnlfchdfhbhaa
open Go.RowKit

theorem pad_text (F S K : ByteArray) (hf : allSp F.data.toList) (hk : allSp K.data.toList) : trim (F ++ S ++ K).data.toList = trim S.data.toList := by
  have := trim_pad S.data.toList hf hk
  simpa using this
theorem pad_dash (F K : ByteArray) (hf : allSp F.data.toList) (hk : allSp K.data.toList) : trim (F ++ ⟨#[45]⟩ ++ K).data.toList = [45] := by
  rw [pad_text F _ K hf hk]
  exact trim_one 45 (by decide)
theorem size_pad (F S K : ByteArray) : (F ++ S ++ K).size = F.size + S.size + K.size := by rw [ByteArray.size_append, ByteArray.size_append]

/-- nothing that was there has turned -/
def Ext (w w' : World) : Prop := Below w.heap.size w w'
theorem Ext.trans {u v w : World} (h : Ext u v) (k : Ext v w) : Ext u w := Below.trans h (Below.mono k h.size)
/-- the value is a slice that reads as the bytes T -/
def Rd (w : World) (v : Value) (T : ByteArray) : Prop := ∃ a c, v = .slice a T.size c ∧ BS w a T.size T.data.toList
theorem Rd.ext {w w' : World} {v : Value} {T : ByteArray} (h : Rd w v T) (k : Ext w w') : Rd w' v T := by
  obtain ⟨a, c, rfl, hb⟩ := h
  exact ⟨a, c, rfl, hb.below k⟩
theorem Rd.back {w : World} {v : Value} {T : ByteArray} (h : Rd w v T) : (convert 25 9 v).run Try.prog w = .ok (.string T) w := by
  obtain ⟨a, c, rfl, hb⟩ := h
  exact run_string_bs (P := Try.prog) 25 9 5 Try.underlying25 Try.underlying5 Try.underlying9 c hb
/-- what TrimBytes hands back where the trimmed text is R -/
def Got (W : World) (R : ByteArray) (e : Ending) (w' : World) : Prop := ∃ v, e = .returned v ∧ Rd w' v R ∧ Ext W w'
theorem got_of {W : World} {v : Value} {T R : ByteArray} (h : Rd W v T) (hn : T.size ≤ 140737488355328) (hR : trim T.data.toList = R.data.toList) : Calls Try.prog 13 #[v] W (Got W R) := by
  obtain ⟨a, c, rfl, hb⟩ := h
  refine (ibytes_any a T.size c T.data.toList W hb hn).mono ?_
  rintro e w' ⟨a1, c1, rfl, hs1, hb1, _⟩
  have e1 : (trim T.data.toList).length = R.size := by rw [hR, size_data]
  rw [e1, hR] at hs1
  rw [e1]
  exact ⟨_, rfl, ⟨a1, c1, rfl, hs1⟩, hb1⟩
/-- '[]byte(t)', what it lays and where left open -/
theorem conv_open (T : ByteArray) : ∃ (V : World → Value) (N : World → World), (∀ u, (convert 9 25 (.string T)).run Try.prog u = .ok (V u) (N u)) ∧ (∀ u, Rd (N u) (V u) T) ∧ ∀ u, Ext u (N u) :=
  ⟨_, _, fun u => run_bytes_of_string (P := Try.prog) u 9 25 5 T Try.underlying9 Try.underlying25 Try.underlying5, fun u => ⟨_, _, rfl, BS.of_row u.drew T _ _ _⟩,
    fun u => ((Below.refl _ u).drew).alloc (Nat.le_refl _) _⟩

set_option maxHeartbeats 4000000 in
/-- the test, from the two texts of spaces on -/
theorem walk_fnTrimPadded (s : ByteArray) (a : Option Addr) (n c : Nat) (l : List UInt8) (b : Option Addr) (m d : Nat) (k : List UInt8) (w : World) (hs : s.size ≤ 1048576)
    (h1 : BS w a n l) (hn : n ≤ 1048576) (h2 : BS w b m k) (hm : m ≤ 1048576) :
    Calls Try.prog 9 #[.string s, .slice a n c, .slice b m d] w fun e w' => e = .returned (.bool true) ∧ Below w.heap.size w w' := by
  go_enter Try.func9, Try.ntmps9
  go_wp2_with fail
  refine (blank_any a n c l w h1 (by omega)).mono ?_
  rintro e w1 ⟨he1, hb1⟩
  have hF : (⟨(blanks l).toArray⟩ : ByteArray).size ≤ 1048576 := by rw [← size_data]; show (blanks l).length ≤ _; rw [blanks_length, h1.1]; exact hn
  have sF : allSp (⟨(blanks l).toArray⟩ : ByteArray).data.toList := blanks_sp l
  generalize (⟨(blanks l).toArray⟩ : ByteArray) = F at he1 hF sF
  subst he1
  go_wp2_with fail
  refine (blank_any b m d k w1 (h2.below hb1) (by omega)).mono ?_
  rintro e w2 ⟨he2, hb2⟩
  have hK : (⟨(blanks k).toArray⟩ : ByteArray).size ≤ 1048576 := by rw [← size_data]; show (blanks k).length ≤ _; rw [blanks_length, h2.1]; exact hm
  have sK : allSp (⟨(blanks k).toArray⟩ : ByteArray).data.toList := blanks_sp k
  generalize (⟨(blanks k).toArray⟩ : ByteArray) = K at he2 hK sK
  subst he2
  have hbw : Below w.heap.size w w2 := hb1.trans (hb2.mono hb1.size)
  have P1 := Lib.hid (pad_text F s K sF sK)
  have P2 := Lib.hid (pad_dash F K sF sK)
  have hz1 : (F ++ s ++ K).size ≤ 3145728 := by rw [size_pad]; omega
  have hz2 : (F ++ ⟨#[45]⟩ ++ K).size ≤ 3145728 := by rw [size_pad, one_size]; omega
  have Z1 := Lib.hid hz1
  have Z2 := Lib.hid hz2
  clear sF sK h1 h2 hb1 hb2 hz1 hz2
  have ca : ∀ W, Calls Try.prog 10 #[.string (F ++ s ++ K)] W fun e w' => e = .returned (.string ⟨(trim s.data.toList).toArray⟩) ∧ W = w' := fun W => by
    have := itrim_any (F ++ s ++ K) W (by rw [size_pad]; omega)
    rw [P1.out] at this
    exact this
  have cb : ∀ W, Calls Try.prog 10 #[.string s] W fun e w' => e = .returned (.string ⟨(trim s.data.toList).toArray⟩) ∧ W = w' := fun W => itrim_any s W (by omega)
  have cc : ∀ W, Calls Try.prog 10 #[.string (F ++ ⟨#[45]⟩ ++ K)] W fun e w' => e = .returned (.string ⟨#[45]⟩) ∧ W = w' := fun W => by
    have := itrim_any (F ++ ⟨#[45]⟩ ++ K) W (by rw [size_pad, one_size]; omega)
    rw [P2.out] at this
    exact this
  generalize hRR : (⟨(trim s.data.toList).toArray⟩ : ByteArray) = R at ca cb
  have hR0 : R.data.toList = trim s.data.toList := by rw [← hRR]
  have HR := Lib.hid hR0
  clear hR0 hRR
  have CA := Lib.hid ca
  have CB := Lib.hid cb
  have CC := Lib.hid cc
  clear ca cb cc
  have hR1 : trim (F ++ s ++ K).data.toList = R.data.toList := by rw [P1.out, HR.out]
  have hn1 : (F ++ s ++ K).size ≤ 140737488355328 := by have := Z1.out; omega
  have hn2 : s.size ≤ 140737488355328 := by omega
  obtain ⟨V1, N1, cv1, rd1, ex1⟩ := conv_open (F ++ s ++ K)
  obtain ⟨V2, N2, cv2, rd2, ex2⟩ := conv_open s
  have G1 : ∀ W v, Rd W v (F ++ s ++ K) → Calls Try.prog 13 #[v] W (Got W R) := fun W v h => got_of h hn1 hR1
  have G2 : ∀ W v, Rd W v s → Calls Try.prog 13 #[v] W (Got W R) := fun W v h => got_of h hn2 HR.out.symm
  have HG1 := Lib.hid G1
  have HG2 := Lib.hid G2
  have HD1 := Lib.hid rd1
  have HD2 := Lib.hid rd2
  have HE1 := Lib.hid ex1
  have HE2 := Lib.hid ex2
  clear hn1 hn2 hR1 G1 G2 rd1 rd2 ex1 ex2
  have e0 : Ext w w2.drew := hbw.drew
  have b1 : ¬ 9223372036854775807 < F.size + s.size := by omega
  have b2 : ¬ 9223372036854775807 < F.size + s.size + K.size := by omega
  have b3 : ¬ 9223372036854775807 < F.size + 1 := by omega
  have b4 : ¬ 9223372036854775807 < F.size + 1 + K.size := by omega
  go_wp2
  rw [show Op.convert 9 25 (.tmp 27) = id (Op.convert 9 25 (.tmp 27)) from rfl, show Op.convert 9 25 (.tmp 31) = id (Op.convert 9 25 (.tmp 31)) from rfl,
    show Op.convert 25 9 (.tmp 29) = id (Op.convert 25 9 (.tmp 29)) from rfl, show Op.convert 25 9 (.tmp 33) = id (Op.convert 25 9 (.tmp 33)) from rfl]
  go_region_held3 (fun _ => True) (trivial) (first
    | (go_at_call_of 10 (Value.string (F ++ s ++ K)); (with_reducible refine Calls.mono (CA.out _) ?_); rintro e w' ⟨rfl, rfl⟩)
    | (go_at_call_of 10 (Value.string s); (with_reducible refine Calls.mono (CB.out _) ?_); rintro e w' ⟨rfl, rfl⟩)
    | (go_at_call 10; (refine Calls.mono (CC.out _) ?_); rintro e w' ⟨rfl, rfl⟩)
    | (go_at_call 13
       (with_reducible refine Calls.mono (HG1.out _ _ (by first | with_reducible exact HD1.out _ | with_reducible exact (HD1.out _).ext (HE2.out _))) ?_)
       rintro e wA ⟨vA, rfl, rdA, hA⟩
       have xA : Ext w wA := by first | with_reducible exact (e0.trans (HE1.out _)).trans hA | with_reducible exact ((e0.trans (HE1.out _)).trans (HE2.out _)).trans hA | with_reducible exact ((e0.trans (HE2.out _)).trans (HE1.out _)).trans hA
       have bA := rdA.back
       have bA2 := (rdA.ext (HE2.out _)).back)
    | (go_at_call 13
       (with_reducible refine Calls.mono (HG2.out _ _ (by first | with_reducible exact HD2.out _ | with_reducible exact (HD2.out _).ext hA | with_reducible exact ((HD2.out _).ext (HE1.out _)).ext hA)) ?_)
       rintro e wB ⟨vB, rfl, rdB, hB⟩
       have xB : Ext w wB := by first | with_reducible exact xA.trans hB | with_reducible exact (xA.trans (HE2.out _)).trans hB
       have bB := rdB.back
       have bB2 : (convert 25 9 vA).run Try.prog wB = .ok (.string R) wB := by first | with_reducible exact (rdA.ext hB).back | with_reducible exact ((rdA.ext (HE2.out _)).ext hB).back))
  all_goals (go_wp2; go_ret; exact ⟨rfl, xB⟩)
end Go.Proofs.Ytdjnlfchdfhbhaa
