/-
  Plain facts on lists of bytes that are trimmed at both ends.
-/
import Derived.Test.YtdjnlfchdfhbhaaMem
import Derived.Lib.Strings
namespace Go.Proofs.Ytdjnlfchdfhbhaa

/-- a space, a tab, a line feed or a carriage return -/
def sp (c : UInt8) : Bool := c == 32 || c == 9 || c == 10 || c == 13
def trimL (l : List UInt8) : List UInt8 := l.dropWhile sp
def trimR (l : List UInt8) : List UInt8 := (l.reverse.dropWhile sp).reverse
def trim (l : List UInt8) : List UInt8 := trimR (trimL l)

theorem trimL_cons {c : UInt8} {l : List UInt8} (h : sp c = true) : trimL (c :: l) = trimL l := by simp [trimL, h]
theorem trimL_stop {c : UInt8} {l : List UInt8} (h : sp c = false) : trimL (c :: l) = c :: l := by simp [trimL, h]
theorem trimL_nil : trimL [] = [] := rfl
theorem trimR_snoc {c : UInt8} {l : List UInt8} (h : sp c = true) : trimR (l ++ [c]) = trimR l := by simp [trimR, h]
theorem trimR_stop {c : UInt8} {l : List UInt8} (h : sp c = false) : trimR (l ++ [c]) = l ++ [c] := by simp [trimR, h]
theorem trimR_nil : trimR [] = [] := rfl

/-- only spaces -/
def allSp (l : List UInt8) : Prop := ∀ c ∈ l, sp c = true
theorem allSp_nil : allSp [] := by intro c h; cases h
theorem allSp_append {l m : List UInt8} (h : allSp l) (k : allSp m) : allSp (l ++ m) := by
  intro c hc
  rcases List.mem_append.1 hc with hc | hc
  · exact h c hc
  · exact k c hc
theorem trimL_front {l m : List UInt8} (h : allSp l) : trimL (l ++ m) = trimL m := by
  induction l with
  | nil => rfl
  | cons c l ih =>
    rw [List.cons_append, trimL_cons (h c (by simp)), ih (fun d hd => h d (by simp [hd]))]
theorem allSp_reverse {l : List UInt8} (h : allSp l) : allSp l.reverse := fun c hc => h c (by simpa using hc)
theorem trimR_back {l m : List UInt8} (h : allSp m) : trimR (l ++ m) = trimR l := by
  have := trimL_front (m := l.reverse) (allSp_reverse h)
  unfold trimL at this
  unfold trimR
  rw [List.reverse_append, this]
theorem trimL_allSp {l : List UInt8} (h : allSp l) : trimL l = [] := by
  have := trimL_front (m := []) h
  simpa [trimL_nil] using this
theorem trimR_allSp {l : List UInt8} (h : allSp l) : trimR l = [] := by
  have := trimR_back (l := []) h
  simpa [trimR_nil] using this
theorem trim_allSp {l : List UInt8} (h : allSp l) : trim l = [] := by unfold trim; rw [trimL_allSp h]; rfl

theorem trimL_split (l : List UInt8) : ∃ f, l = f ++ trimL l ∧ allSp f := by
  induction l with
  | nil => exact ⟨[], rfl, allSp_nil⟩
  | cons c l ih =>
    cases hc : sp c with
    | true =>
      obtain ⟨f, he, hf⟩ := ih
      refine ⟨c :: f, ?_, ?_⟩
      · rw [trimL_cons hc, List.cons_append, ← he]
      · intro d hd
        rcases List.mem_cons.1 hd with rfl | hd
        · exact hc
        · exact hf d hd
    | false => exact ⟨[], by rw [trimL_stop hc]; rfl, allSp_nil⟩
theorem trimR_split (l : List UInt8) : ∃ b, l = trimR l ++ b ∧ allSp b := by
  obtain ⟨f, he, hf⟩ := trimL_split l.reverse
  refine ⟨f.reverse, ?_, allSp_reverse hf⟩
  have := congrArg List.reverse he
  rw [List.reverse_reverse, List.reverse_append] at this
  exact this
/-- the text is what is taken away in front, what is left, and what is taken away behind -/
theorem trim_split (l : List UInt8) : ∃ f b, l = f ++ trim l ++ b ∧ allSp f ∧ allSp b := by
  obtain ⟨f, hf, sf⟩ := trimL_split l
  obtain ⟨b, hb, sb⟩ := trimR_split (trimL l)
  refine ⟨f, b, ?_, sf, sb⟩
  unfold trim
  rw [List.append_assoc, ← hb, ← hf]
/-- a text that begins and ends with no space -/
theorem trim_solid (c d : UInt8) (m : List UInt8) (hc : sp c = false) (hd : sp d = false) : trim ([c] ++ m ++ [d]) = [c] ++ m ++ [d] := by
  unfold trim
  rw [List.append_assoc, List.singleton_append, trimL_stop hc, ← List.cons_append, trimR_stop hd]
theorem trim_one (c : UInt8) (hc : sp c = false) : trim [c] = [c] := by
  unfold trim
  rw [trimL_stop hc]
  exact trimR_stop (l := []) hc
theorem trim_pad {f b : List UInt8} (m : List UInt8) (hf : allSp f) (hb : allSp b) : trim (f ++ m ++ b) = trim m := by
  unfold trim
  rw [List.append_assoc, trimL_front hf]
  by_cases h : allSp m
  · rw [trimL_allSp (allSp_append h hb), trimL_allSp h]
  · have key : ∀ m : List UInt8, ¬ allSp m → trimL (m ++ b) = trimL m ++ b := by
      intro m
      induction m with
      | nil => intro h; exact absurd allSp_nil h
      | cons c m ih =>
        intro h
        cases hc : sp c with
        | true =>
          rw [List.cons_append, trimL_cons hc, trimL_cons hc]
          apply ih
          intro hm
          apply h
          intro d hd
          rcases List.mem_cons.1 hd with rfl | hd
          · exact hc
          · exact hm d hd
        | false => rw [List.cons_append, trimL_stop hc, trimL_stop hc, List.cons_append]
    rw [key m h, trimR_back hb]
theorem trimL_head {c : UInt8} {l m : List UInt8} (h : trimL l = c :: m) : sp c = false := by
  induction l with
  | nil => cases h
  | cons d l ih =>
    cases hd : sp d with
    | true => rw [trimL_cons hd] at h; exact ih h
    | false =>
      rw [trimL_stop hd] at h
      injection h with h1 _
      rw [← h1]; exact hd
theorem trimR_last {c : UInt8} {l m : List UInt8} (h : trimR l = m ++ [c]) : sp c = false := by
  have : trimL l.reverse = c :: m.reverse := by
    have := congrArg List.reverse h
    rw [List.reverse_append] at this
    simpa [trimR, trimL] using this
  exact trimL_head this
/-- what is left begins with no space -/
theorem trim_head {c : UInt8} {l m : List UInt8} (h : trim l = c :: m) : sp c = false := by
  obtain ⟨b, hb, _⟩ := trimR_split (trimL l)
  unfold trim at h
  rw [h] at hb
  exact trimL_head (m := m ++ b) (by rw [hb]; simp)
theorem trim_last {c : UInt8} {l m : List UInt8} (h : trim l = m ++ [c]) : sp c = false := trimR_last h
theorem trim_trim (l : List UInt8) : trim (trim l) = trim l := by
  obtain ⟨f, b, he, hf, hb⟩ := trim_split l
  have := trim_pad (trim l) hf hb
  rw [← he] at this
  exact this.symm
theorem trim_le (l : List UInt8) : (trim l).length ≤ l.length := by
  obtain ⟨f, b, he, _, _⟩ := trim_split l
  have := congrArg List.length he
  simp at this
  omega
/-- trimming leaves nothing only of a text of spaces -/
theorem allSp_of_trim {l : List UInt8} (h : trim l = []) : allSp l := by
  obtain ⟨f, b, he, hf, hb⟩ := trim_split l
  rw [h, List.append_nil] at he
  rw [he]
  exact allSp_append hf hb

/-- a text without its first byte, and without its last one -/
theorem data_cons (u : ByteArray) (h : 0 < u.size) : u.data.toList = u[0] :: (u.extract 1 u.size).data.toList := by
  have hl : 0 < u.data.toList.length := by rw [Array.length_toList]; exact h
  rw [Lib.extract_data]
  have e : u.data.toList.drop 1 = u.data.toList.tail := by simp
  rw [e, List.take_of_length_le (by rw [List.length_tail, Array.length_toList]; exact Nat.le_refl _)]
  rw [← List.cons_head_tail (List.ne_nil_of_length_pos hl)]
  congr 1
  rw [List.head_eq_getElem]
  simp
  rfl
theorem data_snoc (u : ByteArray) (h : u.size - 1 < u.size) : u.data.toList = (u.extract 0 (u.size - 1)).data.toList ++ [u[u.size - 1]] := by
  have hl : u.data.toList.length = u.size := by rw [Array.length_toList]; rfl
  rw [Lib.extract_data, List.drop_zero, Nat.sub_zero]
  have hne : u.size - 1 < u.data.toList.length := by omega
  have e := List.take_succ_eq_append_getElem hne
  rw [show u.size - 1 + 1 = u.data.toList.length from by omega, List.take_length] at e
  have e2 : u.data.toList[u.size - 1] = u[u.size - 1] := by simp; rfl
  rw [e2] at e
  exact e
theorem size_tail (u : ByteArray) : (u.extract 1 u.size).size = u.size - 1 := by simp
theorem size_init (u : ByteArray) : (u.extract 0 (u.size - 1)).size = u.size - 1 := by simp
end Go.Proofs.Ytdjnlfchdfhbhaa
