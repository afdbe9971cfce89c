/-
  Rows of bytes of the call's own: what an append onto one of them leaves of all the others, and that the old row keeps its room. No condition.
-/
import Derived.Test.YtomldkhafbpniaaDoorShelf
import Derived.Test.YtomldkhafbpniaaDoorRows
import Derived.Maps.AppendAt
import Derived.Lib.AppendStr
import Derived.Lib.AppendIntMem
import Derived.Lib.OwnKind
import Derived.Lib.BufferWrite
import Derived.OwnWalk
import Derived.WalkKit
namespace Go.Proofs.YtomldkhafbpniaaDoor
open Go.RowKit

/-- the block k is a row of n cells of the type e, none of them frozen -/
def Room (w : World) (e : TypeId) (k n : Nat) : Prop := ∃ cur : Array Value, w.heap[k]? = some (.cells cur e (0, 0)) ∧ cur.size = n
theorem Room.lt {w : World} {e : TypeId} {k n : Nat} (h : Room w e k n) : k < w.heap.size := by
  obtain ⟨cur, h1, _⟩ := h
  exact (Array.getElem?_eq_some_iff.1 h1).1
theorem Room.of_eq {w w' : World} {e : TypeId} {k n : Nat} (h : Room w e k n) (he : w'.heap[k]? = w.heap[k]?) : Room w' e k n := by
  obtain ⟨cur, h1, h2⟩ := h
  exact ⟨cur, he.trans h1, h2⟩
/-- an empty slice at the row's front is the call's own -/
theorem Room.owns {w : World} {e : TypeId} {k n B : Nat} (h : Room w e k n) (hB : B ≤ k) (hm : n ≤ maxLen) : w.ownsRow B e 1 (.slice (some ⟨k, 0, none⟩) 0 n) 0 [] := by
  obtain ⟨cur, h1, h2⟩ := h
  exact ⟨rfl, .inr ⟨k, n, cur, rfl, hB, h1, Nat.zero_le _, hm, by omega, by simp⟩⟩
/-- all old blocks but g stand as they stood -/
def Stays (g : Nat) (w w' : World) : Prop := ∀ k, k < w.heap.size → k ≠ g → w'.heap[k]? = w.heap[k]?

theorem room_of_owns {w : World} {B : Nat} {e : TypeId} {g n cap : Nat} {xs : List Value} (h : w.ownsRow B e 1 (.slice (some ⟨g, 0, none⟩) n cap) n xs) : Room w e g cap := by
  rcases h.2 with ⟨h1, _⟩ | ⟨g', cap', cur, h1, _, hg, _, _, hcs, _⟩
  · cases h1
  · simp only [Value.slice.injEq, Option.some.injEq, Addr.mk.injEq, and_true, true_and] at h1
    obtain ⟨rfl, rfl⟩ := h1
    exact ⟨cur, hg, by omega⟩

section
variable {P : Program} (w : World)
theorem run_append_row (base : Nat) (t ty e : TypeId) (i : TypeInfo) (z : Value) (ht : P.underlying t = some (.slice e)) (hi : P.info? e = some i) (hz : i.zero = some z)
    (hsize : i.size = 1) (hby : i.bytes = 1) (hzs : z.cells.size = 1)
    (g n cap : Nat) (xs : List Value) (hown : w.ownsRow base e 1 (.slice (some ⟨g, 0, none⟩) n cap) n xs)
    (a : Addr) (m c : Nat) (news : List Value) (hl : news.length = m) (hnews : ∀ j u, news[j]? = some u → w.cell? (a.add j) = some u) (h1 : ∀ u ∈ news, u.oneCell' = true)
    (hbytes : n + m ≤ 140737488355328) (hbase : base ≤ w.heap.size) :
    ∃ v' w', (Builtin.append_ #[t, t] ty #[.slice (some ⟨g, 0, none⟩) n cap, .slice (some a) m c]).run P w = .ok v' w' ∧ w'.ownsRow base e 1 v' (n + m) (xs ++ news) ∧ w.grownBy w' (some g) ∧
      (n + m ≤ cap → v' = .slice (some ⟨g, 0, none⟩) (n + m) cap) ∧ Room w' e g cap := by
  obtain ⟨v', w', hr, h2, h3, h4, h5⟩ := run_append_own_at (P := P) w base t ty e i z 1 1 ht hi hz hsize hby hzs (by decide) _ n xs hown a m c news (by omega) hnews h1 (by unfold maxLen; omega) (by omega) hbase
  have h0 := hown
  rcases hown.2 with ⟨hb1, _⟩ | ⟨g', cap', cur, hb1, hbg, hg, hnc, hcm, hcs, htake⟩
  · cases hb1
  · simp only [Value.slice.injEq, Option.some.injEq, Addr.mk.injEq, and_true, true_and] at hb1
    obtain ⟨rfl, rfl⟩ := hb1
    refine ⟨v', w', hr, h2, h3, ?_⟩
    by_cases hroom : n + m ≤ cap
    · have hr2 := run_append_room (P := P) w t ty e i ht hi g n cap cur hg a m c news (by rw [hsize]; omega) hnews h1 hroom (by rw [hsize]; omega)
      rw [hr] at hr2
      simp only [Result.ok.injEq] at hr2
      obtain ⟨rfl, rfl⟩ := hr2
      refine ⟨fun _ => rfl, _, setRow_heap w g cur _ e _ hg, ?_⟩
      simp only [List.size_toArray, List.length_append, List.length_take, List.length_drop, Array.length_toList, hsize]
      omega
    · have holds : ∀ j u, xs[j]? = some u → w.cell? ((⟨g, 0, none⟩ : Addr).add j) = some u := h0.cells (g := g) rfl
      have hr2 := run_append_grow (P := P) w t ty e i z ht hi hz ⟨g, 0, none⟩ n cap xs (by rw [hsize]; exact h0.1) holds a m c news (by rw [hsize]; omega) hnews (by omega) (by omega) (by rw [hby]; exact growslice_fits (by omega) (by omega))
      rw [hr] at hr2
      simp only [Result.ok.injEq] at hr2
      obtain ⟨rfl, rfl⟩ := hr2
      exact ⟨fun h => absurd h hroom, cur, (heap_alloc_old w.drew _ (Array.getElem?_eq_some_iff.1 hg).1).trans hg, by omega⟩

theorem run_append_row_string (base : Nat) (t u ty e : TypeId) (i : TypeInfo) (ht : P.underlying t = some (.slice e)) (hu : P.underlying u = some .string) (hi : P.info? e = some i) (hz : i.zero = some (.int .u8 0))
    (hsize : i.size = 1) (hby : i.bytes = 1)
    (g n cap : Nat) (xs : List Value) (hown : w.ownsRow base e 1 (.slice (some ⟨g, 0, none⟩) n cap) n xs) (s : ByteArray)
    (hbytes : n + s.size ≤ 140737488355328) (hbase : base ≤ w.heap.size) :
    ∃ v' w', (Builtin.append_ #[t, u] ty #[.slice (some ⟨g, 0, none⟩) n cap, .string s]).run P w = .ok v' w' ∧ w'.ownsRow base e 1 v' (n + s.size) (xs ++ Lib.strCells s) ∧ w.grownBy w' (some g) ∧ Room w' e g cap := by
  obtain ⟨v', w', hr, h2, h3, h4⟩ := Lib.run_append_own_string (P := P) w base t u ty e i ht hu hi hz hsize hby _ n xs hown s (by unfold maxLen; omega) hbytes hbase
  have h0 := hown
  rcases hown.2 with ⟨hb1, _⟩ | ⟨g', cap', cur, hb1, hbg, hg, hnc, hcm, hcs, htake⟩
  · cases hb1
  · simp only [Value.slice.injEq, Option.some.injEq, Addr.mk.injEq, and_true, true_and] at hb1
    obtain ⟨rfl, rfl⟩ := hb1
    refine ⟨v', w', hr, h2, h3, ?_⟩
    by_cases hroom : n + s.size ≤ cap
    · have hr2 := Lib.run_append_room_string (P := P) w t u ty e i ht hu hi hsize g n cap cur hg s hroom (by omega)
      rw [hr] at hr2
      simp only [Result.ok.injEq] at hr2
      obtain ⟨rfl, rfl⟩ := hr2
      refine ⟨_, setRow_heap w g cur _ e _ hg, ?_⟩
      simp only [List.size_toArray, List.length_append, List.length_take, List.length_drop, Array.length_toList, Lib.strCells_length]
      omega
    · have holds : ∀ j u, xs[j]? = some u → w.cell? ((⟨g, 0, none⟩ : Addr).add j) = some u := h0.cells (g := g) rfl
      have hr2 := Lib.run_append_grow_string (P := P) w t u ty e i (.int .u8 0) ht hu hi hz ⟨g, 0, none⟩ n cap xs (by rw [hsize]; exact h0.1) holds s (by omega) (by omega) (by rw [hby]; exact growslice_fits (by omega) (by omega))
      rw [hr] at hr2
      simp only [Result.ok.injEq] at hr2
      obtain ⟨rfl, rfl⟩ := hr2
      exact ⟨cur, (heap_alloc_old w.drew _ (Array.getElem?_eq_some_iff.1 hg).1).trans hg, by omega⟩

theorem wpList_append_row {ops : Array Oper} {rest : List Oper} {o : Oper} {a : Act} {Q : Exit → Act → World → Prop} (hgd : o.guard = none) (s x : Operand) (t : TypeId)
    (ho : o.op = .call { callee := .builtin .append, args := #[s, x], argTypes := #[t, t] })
    (base : Nat) (e : TypeId) (i : TypeInfo) (z : Value) (ht : P.underlying t = some (.slice e)) (hi : P.info? e = some i) (hz : i.zero = some z)
    (hsize : i.size = 1) (hby : i.bytes = 1) (hzs : z.cells.size = 1)
    (g n cap : Nat) (xs : List Value) (hs : a.eval s = .slice (some ⟨g, 0, none⟩) n cap) (hown : w.ownsRow base e 1 (.slice (some ⟨g, 0, none⟩) n cap) n xs)
    (ad : Addr) (m c : Nat) (news : List Value) (hx : a.eval x = .slice (some ad) m c) (hl : news.length = m) (hnews : ∀ j u, news[j]? = some u → w.cell? (ad.add j) = some u) (h1 : ∀ u ∈ news, u.oneCell' = true)
    (hbytes : n + m ≤ 140737488355328) (hbase : base ≤ w.heap.size)
    (h : ∀ v' w', w'.ownsRow base e 1 v' (n + m) (xs ++ news) → w.grownBy w' (some g) → (n + m ≤ cap → v' = .slice (some ⟨g, 0, none⟩) (n + m) cap) → Room w' e g cap → wpList P ops Q rest (a.put o.dst v') w') :
    wpList P ops Q (o :: rest) a w := by
  refine wpList_plain hgd fun K hK => ?_
  obtain ⟨v', w', hr, h2, h3, h4, h5⟩ := run_append_row (P := P) w base t o.type e i z ht hi hz hsize hby hzs g n cap xs hown ad m c news hl hnews h1 hbytes hbase
  unfold Oper.wp execOp
  simp only [ho, resolve, invoke, builtin, Sem.run_bind, Sem.run_pure, Result.andThen_ok, List.map_toArray, List.map_cons, List.map_nil, hs, hx, hr]
  exact hK _ _ (h v' w' h2 h3 h4 h5)

theorem wpList_append_row_string {ops : Array Oper} {rest : List Oper} {o : Oper} {a : Act} {Q : Exit → Act → World → Prop} (hgd : o.guard = none) (sl x : Operand) (t u : TypeId)
    (ho : o.op = .call { callee := .builtin .append, args := #[sl, x], argTypes := #[t, u] })
    (base : Nat) (e : TypeId) (i : TypeInfo) (ht : P.underlying t = some (.slice e)) (hu : P.underlying u = some .string) (hi : P.info? e = some i) (hz : i.zero = some (.int .u8 0))
    (hsize : i.size = 1) (hby : i.bytes = 1)
    (g n cap : Nat) (xs : List Value) (hs : a.eval sl = .slice (some ⟨g, 0, none⟩) n cap) (hown : w.ownsRow base e 1 (.slice (some ⟨g, 0, none⟩) n cap) n xs) (s : ByteArray) (hx : a.eval x = .string s)
    (hbytes : n + s.size ≤ 140737488355328) (hbase : base ≤ w.heap.size)
    (h : ∀ v' w', w'.ownsRow base e 1 v' (n + s.size) (xs ++ Lib.strCells s) → w.grownBy w' (some g) → Room w' e g cap → wpList P ops Q rest (a.put o.dst v') w') : wpList P ops Q (o :: rest) a w := by
  refine wpList_plain hgd fun K hK => ?_
  obtain ⟨v', w', hr, h2, h3, h4⟩ := run_append_row_string (P := P) w base t u o.type e i ht hu hi hz hsize hby g n cap xs hown s hbytes hbase
  unfold Oper.wp execOp
  simp only [ho, resolve, invoke, builtin, Sem.run_bind, Sem.run_pure, Result.andThen_ok, List.map_toArray, List.map_cons, List.map_nil, hs, hx, hr]
  exact hK _ _ (h v' w' h2 h3 h4)
end

theorem Stays.of_grown {g : Nat} {w w' : World} (h : w.grownBy w' (some g)) : Stays g w w' := fun k hk hne => h.block k hk (fun e => hne (Option.some.inj e))
theorem Stays.trans {g : Nat} {a b c : World} (h : Stays g a b) (k : Stays g b c) (hs : a.heap.size ≤ b.heap.size) : Stays g a c :=
  fun i hi hne => (k i (by omega) hne).trans (h i hi hne)
theorem Stays.of_below {g : Nat} {w w' : World} (h : Below w.heap.size w w') : Stays g w w' := fun k hk _ => h.block k hk
theorem slice5 : Tryd.prog.underlying 32 = some (.slice 5) := Tryd.underlying32
theorem info5 : ∃ i, Tryd.prog.info? 5 = some i ∧ i.zero = some (.int .u8 0) ∧ i.size = 1 ∧ i.bytes = 1 := info_parts (by kernel_rfl)

/-- copyCheck at a builder that has been written -/
theorem copyCheck (b : Nat) (w : World) (h0 : w.cell? ⟨b, 0, none⟩ = some (.pointer (some ⟨b, 0, none⟩))) :
    Calls Tryd.prog 20 #[.pointer (some ⟨b, 0, none⟩)] w fun e w' => e = .returned (.tuple #[]) ∧ w' = w :=
  Any.Builder_copyCheck_used (ρ := Tryd.lays165_ren) { Tryd.lays165 with } Tryd.Builder_Extra_165.toX72 b w h0
end Go.Proofs.YtomldkhafbpniaaDoor
