/-
  (*strings.Builder).WriteByte and Write at a builder that has been used: what they write, and that every other old block stands as it stood.
-/
import Derived.Test.YtomldkhafbpniaaDoorApp
namespace Go.Proofs.YtomldkhafbpniaaDoor
open Go.RowKit Go.Lib

/-- the builder b holds bs, in the row v -/
def BAt (B b : Nat) (bs : List Value) (v : Value) (w : World) : Prop :=
  B ≤ b ∧ w.heap[b]? = some (.cells #[.pointer (some ⟨b, 0, none⟩), v] 34 (0, 0)) ∧ w.ownsRow B 5 1 v bs.length bs ∧ v.ownBlock ≠ some b
/-- what a write leaves -/
def Wrote (B b : Nat) (bs : List Value) (v : Value) (w w' : World) : Prop :=
  ∃ v', BAt B b bs v' w' ∧ Below B w w' ∧ ∀ k, k < w.heap.size → k ≠ b → v.ownBlock ≠ some k → w'.heap[k]? = w.heap[k]? ∧ v'.ownBlock ≠ some k

theorem BAt.lt {B b : Nat} {bs : List Value} {v : Value} {w : World} (h : BAt B b bs v w) : b < w.heap.size := (Array.getElem?_eq_some_iff.1 h.2.1).1

theorem put_row {B b : Nat} {bs : List Value} {v v' : Value} {w2 : World} (hB : B ≤ b) (hb2 : w2.heap[b]? = some (.cells #[.pointer (some ⟨b, 0, none⟩), v] 34 (0, 0))) (hown' : w2.ownsRow B 5 1 v' bs.length bs) (hv : v'.ownBlock ≠ some b) :
    BAt B b bs v' (w2.setCell ⟨b, 1, none⟩ v') := by
  refine ⟨hB, ?_, ?_, hv⟩
  · simp [World.setCell, Array.getElem?_modify, hb2]
  · refine ⟨hown'.1, ?_⟩
    rcases hown'.2 with hn | ⟨g, cap, cur, rfl, hbg, hg, rest⟩
    · exact .inl hn
    · refine .inr ⟨g, cap, cur, rfl, hbg, ?_, rest⟩
      have hne : g ≠ b := fun e => hv (by simp [Value.ownBlock, e])
      rw [Below.heap_setCell _ _ _ _ hne]
      exact hg

set_option maxHeartbeats 2000000 in
set_option maxRecDepth 100000 in
theorem writeByte (B b : Nat) (bs : List Value) (v : Value) (c : Int) (w : World) (h : BAt B b bs v w) (hlen : bs.length + 1 ≤ 140737488355328) (hBw : B ≤ w.heap.size) :
    Calls Tryd.prog 15 #[.pointer (some ⟨b, 0, none⟩), .int .u8 c] w fun e w' => e = .returned .nilIface ∧ Wrote B b (bs ++ [.int .u8 c]) v w w' := by
  obtain ⟨i0, hi, hz0, hz1, hz2⟩ := info5
  have hlt := h.lt
  obtain ⟨hB, hbk, hown, hne⟩ := h
  have c0 : w.cell? ⟨b, 0, none⟩ = some (.pointer (some ⟨b, 0, none⟩)) := by rw [Lib.cell_of_heap hbk]; rfl
  have c1 : w.cell? ⟨b, 1, none⟩ = some v := by rw [Lib.cell_of_heap hbk]; rfl
  go_enter Tryd.func15, Tryd.ntmps15
  go_wp2_with (go_at_call 20; refine (copyCheck b w c0).mono ?_)
  rintro e w1 ⟨rfl, hw1⟩
  obtain rfl := hw1.symm
  go_wp2_with (at_builtin; refine wpList_append_own_at _ rfl _ _ 32 rfl B 5 i0 (.int .u8 0) 1 1 Tryd.underlying32 hi hz0 hz1 hz2 rfl (by decide) _ _ _ rfl (hown.alloc _) ⟨w.heap.size, 0, none⟩ 1 1 [.int .u8 c] rfl rfl ?c1 ?c2 ?c3 ?c4 ?c5 ?_)
  case c1 =>
    intro j u hj
    match j, hj with
    | 0, hj => simp at hj; subst hj; simp [Addr.add]
  case c2 => intro u hu; simp at hu; subst hu; rfl
  case c3 => unfold maxLen; omega
  case c4 => omega
  case c5 => simp; omega
  intro v' w2 hown' hgrow _ hat
  have hb2 : w2.heap[b]? = some (.cells #[.pointer (some ⟨b, 0, none⟩), v] 34 (0, 0)) := by
    rw [hgrow.block b (by simp; omega) (fun e => hne e.symm), Lib.alloc_old w _ b hlt]
    exact hbk
  have d0 : w2.cell? ⟨b, 0, none⟩ = some (.pointer (some ⟨b, 0, none⟩)) := by rw [Lib.cell_of_heap hb2]; rfl
  have d1 : w2.cell? ⟨b, 1, none⟩ = some v := by rw [Lib.cell_of_heap hb2]; rfl
  have f1 : w2.frozen? ⟨b, 1, none⟩ = false := Lib.frozen_of_heap hb2 1
  obtain ⟨g, cap, rfl⟩ : ∃ g cap, v' = .slice (some ⟨g, 0, none⟩) (bs.length + 1) cap := by
    rcases hown'.2 with ⟨_, h0⟩ | ⟨g, cap, cur, hv, _⟩
    · omega
    · exact ⟨g, cap, hv⟩
  have hgk : ∀ k, k < w.heap.size → v.ownBlock ≠ some k → Value.ownBlock (.slice (some ⟨g, 0, none⟩) (bs.length + 1) cap) ≠ some k := by
    intro k hk hvk e
    rcases hat with h1 | h1
    · exact hvk (h1.symm.trans e)
    · rw [h1] at e
      simp at e
      omega
  go_wp2
  go_ret
  refine ⟨rfl, _, put_row hB hb2 (by simpa using hown') (hgk b hlt hne), ?_, fun k hk hkb hvk => ⟨?_, hgk k hk hvk⟩⟩
  · exact (((Below.refl B w).alloc hBw _).grown hgrow (by simp; omega) (fun k hk => (hown.lt k hk).1)).setCell (p := ⟨b, 1, none⟩) hB _
  · rw [Below.heap_setCell _ _ _ _ hkb, hgrow.block k (by simp; omega) (fun e => hvk e.symm), Lib.alloc_old w _ k hk]

set_option maxHeartbeats 2000000 in
set_option maxRecDepth 100000 in
theorem write (B b g m cap : Nat) (bs xs : List Value) (v : Value) (w : World) (h : BAt B b bs v w) (hsrc : w.ownsRow B 5 1 (.slice (some ⟨g, 0, none⟩) m cap) m xs) (hone : ∀ u ∈ xs, u.oneCell' = true) (hm : 0 < m) (hlen : bs.length + m ≤ 140737488355328) (hBw : B ≤ w.heap.size) :
    Calls Tryd.prog 16 #[.pointer (some ⟨b, 0, none⟩), .slice (some ⟨g, 0, none⟩) m cap] w fun e w' => e = .returned (.tuple #[.int .i64 m, .nilIface]) ∧ Wrote B b (bs ++ xs) v w w' := by
  obtain ⟨i0, hi, hz0, hz1, hz2⟩ := info5
  have hlt := h.lt
  obtain ⟨hB, hbk, hown, hne⟩ := h
  have c0 : w.cell? ⟨b, 0, none⟩ = some (.pointer (some ⟨b, 0, none⟩)) := by rw [Lib.cell_of_heap hbk]; rfl
  have c1 : w.cell? ⟨b, 1, none⟩ = some v := by rw [Lib.cell_of_heap hbk]; rfl
  have hxl : xs.length = m := by have := hsrc.1; omega
  go_enter Tryd.func16, Tryd.ntmps16
  go_wp2_with (go_at_call 20; refine (copyCheck b w c0).mono ?_)
  rintro e w1 ⟨rfl, hw1⟩
  obtain rfl := hw1.symm
  go_wp2_with (at_builtin; refine wpList_append_own_at _ rfl _ _ 32 rfl B 5 i0 (.int .u8 0) 1 1 Tryd.underlying32 hi hz0 hz1 hz2 rfl (by decide) _ _ _ rfl hown ⟨g, 0, none⟩ m cap xs rfl ?c0 (hsrc.cells (g := g) rfl) hone ?c3 ?c4 hBw ?_)
  case c0 => omega
  case c3 => unfold maxLen; omega
  case c4 => omega
  intro v' w2 hown' hgrow _ hat
  have hb2 : w2.heap[b]? = some (.cells #[.pointer (some ⟨b, 0, none⟩), v] 34 (0, 0)) := by
    rw [hgrow.block b hlt (fun e => hne e.symm)]
    exact hbk
  have d0 : w2.cell? ⟨b, 0, none⟩ = some (.pointer (some ⟨b, 0, none⟩)) := by rw [Lib.cell_of_heap hb2]; rfl
  have d1 : w2.cell? ⟨b, 1, none⟩ = some v := by rw [Lib.cell_of_heap hb2]; rfl
  have f1 : w2.frozen? ⟨b, 1, none⟩ = false := Lib.frozen_of_heap hb2 1
  obtain ⟨g', cap', rfl⟩ : ∃ g' cap', v' = .slice (some ⟨g', 0, none⟩) (bs.length + m) cap' := by
    rcases hown'.2 with ⟨_, h0⟩ | ⟨g, cap, cur, hv, _⟩
    · omega
    · exact ⟨g, cap, hv⟩
  have hgk : ∀ k, k < w.heap.size → v.ownBlock ≠ some k → Value.ownBlock (.slice (some ⟨g', 0, none⟩) (bs.length + m) cap') ≠ some k := by
    intro k hk hvk e
    rcases hat with h1 | h1
    · exact hvk (h1.symm.trans e)
    · rw [h1] at e
      simp at e
      omega
  go_wp2
  go_ret2
  refine ⟨rfl, _, put_row hB hb2 (by simpa [hxl] using hown') (hgk b hlt hne), ?_, fun k hk hkb hvk => ⟨?_, hgk k hk hvk⟩⟩
  · exact ((Below.refl B w).grown hgrow hBw (fun k hk => (hown.lt k hk).1)).setCell (p := ⟨b, 1, none⟩) hB _
  · rw [Below.heap_setCell _ _ _ _ hkb, hgrow.block k hk (fun e => hvk e.symm)]
end Go.Proofs.YtomldkhafbpniaaDoor
