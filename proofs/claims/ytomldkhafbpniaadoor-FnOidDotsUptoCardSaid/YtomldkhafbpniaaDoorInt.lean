/-
  Words for slices of int that came in, or that a call has made: the slice reads as a list of numbers. No condition.
-/
import Derived.Test.YtomldkhafbpniaaDoorRows
import Derived.WalkKit
import Derived.ProofKit
import Derived.OpenShut
import Derived.ShutString
import Derived.ChangeOld
import Derived.Below
import Derived.SizedLaws
import Derived.Lib.Hide
import Derived.Maps.AppendAt
import Derived.Laws.Rows
import Derived.OwnWalk
import Derived.RegionTactic
import Derived.WalkSmall
namespace Go.Proofs.YtomldkhafbpniaaDoor
open Go.ChangeShapes Go.WideShapes Go.ChangeAt Go.RowKit

theorem ret_int {k : IntKind} {a b : Int} (h : a = b) : Ending.returned (.int k a) = .returned (.int k b) := by rw [h]
theorem ret_bool {a b : Bool} (h : a = b) : Ending.returned (.bool a) = .returned (.bool b) := by rw [h]
theorem iadd_at (b off i : Nat) : (⟨b, off, none⟩ : Addr).add i = ⟨b, off + i, none⟩ := by unfold Addr.add; split <;> simp_all

/-- the number at a place; 0 beyond the end -/
def zt (z : List Int) (j : Nat) : Int := z[j]?.getD 0
theorem zt_of {z : List Int} {j : Nat} (h : j < z.length) : zt z j = z[j] := by unfold zt; rw [List.getElem?_eq_getElem h]; rfl
theorem zt_ext {z y : List Int} (hl : z.length = y.length) (h : ∀ j, j < z.length → zt z j = zt y j) : z = y := by
  apply List.ext_getElem hl
  intro i h1 h2
  rw [← zt_of h1, ← zt_of h2]
  exact h i h1
def ivs (z : List Int) : List Value := z.map (Value.int .i64)
theorem ivs_length (z : List Int) : (ivs z).length = z.length := by simp [ivs]
theorem ivs_get {z : List Int} {j : Nat} (h : j < z.length) : (ivs z)[j]? = some (.int .i64 (zt z j)) := by
  unfold ivs; rw [List.getElem?_map, List.getElem?_eq_getElem h, zt_of h]; rfl
theorem ivs_append (z y : List Int) : ivs (z ++ y) = ivs z ++ ivs y := by simp [ivs]
theorem ivs_oneCell (z : List Int) : ∀ u ∈ ivs z, u.oneCell' = true := by
  intro u hu
  simp only [ivs, List.mem_map] at hu
  obtain ⟨b, _, rfl⟩ := hu
  rfl

/-- each number is an int -/
def fitsI (z : List Int) : Prop := ∀ x ∈ z, -9223372036854775808 ≤ x ∧ x ≤ 9223372036854775807
theorem fitsI_at {z : List Int} (h : fitsI z) (j : Nat) : -9223372036854775808 ≤ zt z j ∧ zt z j ≤ 9223372036854775807 := by
  by_cases hj : j < z.length
  · rw [zt_of hj]; exact h _ (List.getElem_mem hj)
  · unfold zt; rw [List.getElem?_eq_none (by omega)]; simp

/-- THE SLICE '.slice a n _' READS AS THE NUMBERS z (nil and empty ones included) -/
def IS (w : World) (a : Option Addr) (n : Nat) (z : List Int) : Prop :=
  z.length = n ∧ (0 < n → ∃ b off, a = some ⟨b, off, none⟩ ∧ ∀ j, j < n → w.cell? ⟨b, off + j, none⟩ = some (.int .i64 (zt z j)))
theorem IS.empty (w : World) (a : Option Addr) : IS w a 0 [] := ⟨rfl, fun h => absurd h (by omega)⟩
theorem IS.open_ {w : World} {a : Option Addr} {n : Nat} {z : List Int} (h : IS w a n z) (hn : 0 < n) :
    ∃ b off, a = some ⟨b, off, none⟩ ∧ b < w.heap.size ∧ ∀ j, j < n → w.cell? ⟨b, off + j, none⟩ = some (.int .i64 (zt z j)) := by
  obtain ⟨b, off, ha, hc⟩ := h.2 hn
  exact ⟨b, off, ha, World.block_lt_of_cell? (a := ⟨b, off + 0, none⟩) w (hc 0 hn), hc⟩
theorem IS.keep {w w' : World} {a : Option Addr} {n : Nat} {z : List Int} (h : IS w a n z) (hk : ∀ p : Addr, p.block < w.heap.size → w'.cell? p = w.cell? p) : IS w' a n z := by
  refine ⟨h.1, fun hn => ?_⟩
  obtain ⟨b, off, ha, hb, hc⟩ := h.open_ hn
  exact ⟨b, off, ha, fun j hj => (hk ⟨b, off + j, none⟩ hb).trans (hc j hj)⟩
theorem IS.below {w w' : World} {a : Option Addr} {n : Nat} {z : List Int} (h : IS w a n z) (hb : Below w.heap.size w w') : IS w' a n z :=
  h.keep fun _ hp => hb.cell hp
theorem IS.alloc {w : World} {a : Option Addr} {n : Nat} {z : List Int} (h : IS w a n z) (o : Obj) : IS (w.alloc o) a n z :=
  h.keep fun p hp => World.cell?_alloc_lt w o p hp
theorem IS.one (w : World) (e : TypeId) (x : Int) : IS (w.alloc (.cells #[.int .i64 x] e)) (some ⟨w.heap.size, 0, none⟩) 1 [x] := by
  refine ⟨rfl, fun _ => ⟨w.heap.size, 0, rfl, fun j hj => ?_⟩⟩
  obtain rfl : j = 0 := by omega
  rw [World.cell?_alloc_new]
  rfl
theorem IS.of_own {w : World} {base : Nat} {e : TypeId} {v : Value} {n : Nat} {z : List Int} (h : w.ownsRow base e 1 v n (ivs z)) :
    ∃ a c, v = .slice a n c ∧ IS w a n z ∧ n ≤ c ∧ c ≤ maxLen := by
  have hl : z.length = n := by have := h.1; rw [ivs_length] at this; omega
  have h0 := h
  rcases h.2 with ⟨rfl, rfl⟩ | ⟨g, cap, cur, rfl, _, hh, hn, hc, hsz, htake⟩
  · exact ⟨none, 0, rfl, ⟨hl, fun h => absurd h (by omega)⟩, by omega, by omega⟩
  · refine ⟨some ⟨g, 0, none⟩, cap, rfl, ⟨hl, fun hpos => ⟨g, 0, rfl, fun j hj => ?_⟩⟩, hn, hc⟩
    have := h0.cells (g := g) rfl j (.int .i64 (zt z j)) (ivs_get (by omega))
    rw [iadd_at] at this
    exact this
theorem iown_new (w : World) (e : TypeId) (z : List Int) (base : Nat) (hb : base ≤ w.heap.size) (hl : z.length ≤ maxLen) :
    (w.alloc (.cells (ivs z).toArray e)).ownsRow base e 1 (.slice (some ⟨w.heap.size, 0, none⟩) z.length z.length) z.length (ivs z) := by
  refine ⟨by simp [ivs_length], .inr ⟨w.heap.size, z.length, (ivs z).toArray, rfl, hb, heap_alloc_new w _, Nat.le_refl _, hl, by simp [ivs_length], ?_⟩⟩
  rw [Nat.mul_one, ← ivs_length z]
  exact List.take_length

section
variable {P : Program} (w : World)
theorem irun_append_none (base : Nat) (t ty e : TypeId) (i : TypeInfo) (ht : P.underlying t = some (.slice e)) (hi : P.info? e = some i)
    (v : Value) (n : Nat) (xs : List Value) (hown : w.ownsRow base e 1 v n xs) (c : Nat) : (Builtin.append_ #[t, t] ty #[v, .slice none 0 c]).run P w = .ok v w := by
  rcases hown.2 with ⟨rfl, rfl⟩ | ⟨g, cap, cur, rfl, _, _, hnc, _⟩
  · simp [Builtin.append_, run_underlying ht, sizeOf, typeInfo, hi, Builtin.lenOf, Builtin.firstCells]
  · simp [Builtin.append_, run_underlying ht, sizeOf, typeInfo, hi, Builtin.lenOf, Builtin.firstCells, hnc, storeCells]

/-- append onto numbers of the call's own, from whatever source -/
theorem run_append_is (base : Nat) (t ty e : TypeId) (i : TypeInfo) (x : Value) (ht : P.underlying t = some (.slice e)) (hi : P.info? e = some i) (hz : i.zero = some x)
    (hsize : i.size = 1) (hby : i.bytes = 8) (hzs : x.cells.size = 1)
    (v : Value) (n : Nat) (z : List Int) (hown : w.ownsRow base e 1 v n (ivs z)) (A : Option Addr) (m c : Nat) (k : List Int) (hr : IS w A m k)
    (h47 : (n + m) * 8 ≤ 140737488355328) (hbase : base ≤ w.heap.size) :
    ∃ a' c' w', (Builtin.append_ #[t, t] ty #[v, .slice A m c]).run P w = .ok (.slice a' (n + m) c') w' ∧ w'.ownsRow base e 1 (.slice a' (n + m) c') (n + m) (ivs (z ++ k)) ∧ IS w' a' (n + m) (z ++ k) ∧ n + m ≤ c' ∧ c' ≤ maxLen ∧ Below base w w' := by
  have hrow : ∀ g, v.ownBlock = some g → base ≤ g := by
    intro g hg
    rcases hown.2 with ⟨rfl, rfl⟩ | ⟨g', cap, cur, rfl, hb, _⟩
    · simp [Value.ownBlock] at hg
    · simp [Value.ownBlock] at hg
      omega
  have key : ∃ v' w', (Builtin.append_ #[t, t] ty #[v, .slice A m c]).run P w = .ok v' w' ∧ w'.ownsRow base e 1 v' (n + m) (ivs (z ++ k)) ∧ w.grownBy w' v.ownBlock := by
    rcases A with _ | ad
    · have hm : m = 0 := by
        rcases Nat.eq_zero_or_pos m with h0 | h0
        · exact h0
        · obtain ⟨b, off, h, _⟩ := hr.2 h0
          cases h
      subst hm
      have hk : k = [] := List.eq_nil_of_length_eq_zero hr.1
      subst hk
      exact ⟨v, w, irun_append_none w base t ty e i ht hi v n _ hown c, by simpa using hown, World.grownBy.refl w _⟩
    · have hcells : ∀ j u, (ivs k)[j]? = some u → w.cell? (ad.add j) = some u := by
        intro j u hu
        have hj : j < (ivs k).length := (List.getElem?_eq_some_iff.1 hu).1
        rw [ivs_length, hr.1] at hj
        obtain ⟨b, off, h, hc⟩ := hr.2 (by omega)
        injection h with h
        subst h
        rw [ivs_get (by rw [hr.1]; exact hj)] at hu
        rw [iadd_at, hc j hj]
        exact hu
      obtain ⟨v', w', hrun, h2, h3, _, _⟩ := run_append_own_at (P := P) w base t ty e i x 1 8 ht hi hz hsize hby hzs (by omega) v n (ivs z) hown ad m c (ivs k) (by rw [ivs_length, hr.1]; omega) hcells (ivs_oneCell k) (by unfold maxLen; omega) (by omega) hbase
      exact ⟨v', w', hrun, by rw [ivs_append]; exact h2, h3⟩
  obtain ⟨v', w', h1, h2, h3⟩ := key
  obtain ⟨a', c', rfl, h4, h5, h6⟩ := IS.of_own h2
  exact ⟨a', c', w', h1, h2, h4, h5, h6, (Below.refl base w).grown h3 hbase hrow⟩

/-- at the operation, for the walk -/
theorem wpList_append_is {ops : Array Oper} {rest : List Oper} {o : Oper} {a : Act} {Q : Exit → Act → World → Prop} (hgd : Region.wanted o (yielded ops a.tmps) = true) (s x : Operand) (t : TypeId)
    (ho : o.op = .call { callee := .builtin .append, args := #[s, x], argTypes := #[t, t] })
    (base : Nat) (e : TypeId) (i : TypeInfo) (zero : Value) (ht : P.underlying t = some (.slice e)) (hi : P.info? e = some i) (hz : i.zero = some zero)
    (hsize : i.size = 1) (hby : i.bytes = 8) (hzs : zero.cells.size = 1)
    (v : Value) (n : Nat) (z : List Int) (hs : a.eval s = v) (hown : w.ownsRow base e 1 v n (ivs z)) (A : Option Addr) (m c : Nat) (k : List Int) (hx : a.eval x = .slice A m c) (hr : IS w A m k)
    (h47 : (n + m) * 8 ≤ 140737488355328) (hbase : base ≤ w.heap.size)
    (h : ∀ a' c' w', w'.ownsRow base e 1 (.slice a' (n + m) c') (n + m) (ivs (z ++ k)) → IS w' a' (n + m) (z ++ k) → n + m ≤ c' → c' ≤ maxLen → Below base w w' → wpList P ops Q rest (a.put o.dst (.slice a' (n + m) c')) w') : wpList P ops Q (o :: rest) a w :=
  wpList_step fun K hK => by
    rw [if_pos hgd]
    obtain ⟨a', c', w', hrun, h2, h3, h4, h5, h6⟩ := run_append_is (P := P) w base t o.type e i zero ht hi hz hsize hby hzs v n z hown A m c k hr h47 hbase
    unfold Oper.wp execOp
    simp only [ho, resolve, invoke, builtin, Sem.run_bind, Sem.run_pure, Result.andThen_ok, List.map_toArray, List.map_cons, List.map_nil, hs, hx, hrun]
    exact hK _ _ (h a' c' w' h2 h3 h4 h5 h6)
end

section
variable {H : Type} {enc : TypeId × Value → H} {P : Program} {W : World}
theorem open_intsl {t e : TypeId} (ht : P.underlying t = some (.slice e)) (he : P.underlying e = some (.int .i64)) (hc : P.cellsOf e = 1) (hby : P.bytesOf e = 8)
    {a : Option Addr} {len cap : Nat} {d : DataW H} {p : List MemPlace} (h : DataW.Trod enc P W 0 (fun _ => true) true t (.slice a len cap) d p)
    {ts : List TypeId} {ds : List (DataW H)} {j : Nat} (hsz : (DataW.weightsEach P ts ds).all (· ≤ reachBytes) = true) (htj : ts[j]? = some t) (hdj : ds[j]? = some d) :
    ∃ z, (IS W a len z ∧ fitsI z) ∧ len ≤ cap ∧ cap * 8 ≤ 140737488351232 := by
  obtain ⟨fuel, hf⟩ := h
  rcases open_ints ht he hc hf with ⟨hcs, hx⟩ | ⟨x, l, c, zs, hcs, _, hl, hm, hz, hx, hcell, hwz⟩
  · simp [Value.cells] at hcs
    obtain ⟨rfl, rfl, rfl⟩ := hcs
    exact ⟨[], ⟨IS.empty _ _, by intro x hx; cases hx⟩, by omega, by omega⟩
  · simp [Value.cells] at hcs
    obtain ⟨rfl, rfl, rfl⟩ := hcs
    simp only [Prod.mk.injEq] at hx
    obtain ⟨rfl, rfl⟩ := hx
    simp only [if_true] at hz
    have hr := sized_slice hsz htj hdj ht
    rw [hby] at hr
    simp only [lits, List.length_map, List.length_take, List.length_drop, reachBytes] at hr
    refine ⟨zs.take len, ⟨⟨by simp; omega, fun hpos => ?_⟩, fun y hy => bounds_i64 (hwz y (List.mem_of_mem_take hy))⟩, hl, by omega⟩
    obtain ⟨b, off, spot⟩ := x
    have hspot : spot = none := by simpa [Addr.add] using World.cell?_spot (hcell 0 (by omega))
    subst hspot
    refine ⟨b, off, rfl, fun i hi => ?_⟩
    have hci := hcell i (by omega)
    rw [iadd_at] at hci
    rw [hci]
    unfold zt
    rw [List.getElem?_take, if_pos hi]
    rfl
end
end Go.Proofs.YtomldkhafbpniaaDoor
