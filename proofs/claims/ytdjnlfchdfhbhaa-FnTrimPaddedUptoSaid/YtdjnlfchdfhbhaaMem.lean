/-
  Words for byte slices that came in, or that a call has made: the slice reads as a list of bytes. No condition.
-/
import Derived.Test.YtdjnlfchdfhbhaaRows
import Derived.WalkKit
import Derived.ProofKit
import Derived.OpenShut
import Derived.ShutString
import Derived.ChangeOld
import Derived.Below
import Derived.SizedLaws
import Derived.Laws.IdiomStrings
import Derived.Lib.Hide
import Derived.Maps.AppendAt
import Derived.Laws.Rows
import Derived.OwnWalk
import Derived.Laws.BytesArg
import Derived.RegionTactic
namespace Go.Proofs.Ytdjnlfchdfhbhaa
open Go.ChangeShapes Go.WideShapes Go.ChangeAt Go.RowKit

theorem own : ownKnob Try.prog.godebug = none := by kernel_rfl
theorem laidOut : laidOutB Try.prog = true := by kernel_rfl

theorem add_at (b off i : Nat) : (⟨b, off, none⟩ : Addr).add i = ⟨b, off + i, none⟩ := by unfold Addr.add; split <;> simp_all

/-- the byte at a place, as a number; 0 beyond the end -/
def bt (l : List UInt8) (j : Nat) : Int := ((l[j]?.getD 0).toNat : Int)
theorem bt_nonneg (l : List UInt8) (j : Nat) : 0 ≤ bt l j := by unfold bt; omega
theorem bt_le (l : List UInt8) (j : Nat) : bt l j ≤ 255 := by
  unfold bt; have := (l[j]?.getD 0).toNat_lt; omega
theorem bt_of {l : List UInt8} {j : Nat} (h : j < l.length) : bt l j = (l[j].toNat : Int) := by
  unfold bt; rw [List.getElem?_eq_getElem h]; rfl
theorem bt_out {l : List UInt8} {j : Nat} (h : l.length ≤ j) : bt l j = 0 := by
  unfold bt; rw [List.getElem?_eq_none h]; rfl

/-- the cells of a list of bytes -/
def bvs (l : List UInt8) : List Value := l.map fun b => Value.int .u8 b.toNat
theorem bvs_length (l : List UInt8) : (bvs l).length = l.length := by simp [bvs]
theorem bvs_get {l : List UInt8} {j : Nat} (h : j < l.length) : (bvs l)[j]? = some (.int .u8 (bt l j)) := by
  unfold bvs; rw [List.getElem?_map, List.getElem?_eq_getElem h, bt_of h]; rfl
theorem bvs_append (l m : List UInt8) : bvs (l ++ m) = bvs l ++ bvs m := by simp [bvs]
theorem bvs_oneCell (l : List UInt8) : ∀ u ∈ bvs l, u.oneCell' = true := by
  intro u hu
  simp only [bvs, List.mem_map] at hu
  obtain ⟨b, _, rfl⟩ := hu
  rfl

/-- THE SLICE '.slice a n _' READS AS THE BYTES l (nil and empty ones included) -/
def BS (w : World) (a : Option Addr) (n : Nat) (l : List UInt8) : Prop :=
  l.length = n ∧ (0 < n → ∃ b off, a = some ⟨b, off, none⟩ ∧ ∀ j, j < n → w.cell? ⟨b, off + j, none⟩ = some (.int .u8 (bt l j)))

theorem BS.length {w : World} {a : Option Addr} {n : Nat} {l : List UInt8} (h : BS w a n l) : l.length = n := h.1
theorem BS.empty (w : World) (a : Option Addr) : BS w a 0 [] := ⟨rfl, fun h => absurd h (by omega)⟩
theorem BS.open_ {w : World} {a : Option Addr} {n : Nat} {l : List UInt8} (h : BS w a n l) (hn : 0 < n) :
    ∃ b off, a = some ⟨b, off, none⟩ ∧ b < w.heap.size ∧ ∀ j, j < n → w.cell? ⟨b, off + j, none⟩ = some (.int .u8 (bt l j)) := by
  obtain ⟨b, off, ha, hc⟩ := h.2 hn
  exact ⟨b, off, ha, World.block_lt_of_cell? (a := ⟨b, off + 0, none⟩) w (hc 0 hn), hc⟩
theorem BS.keep {w w' : World} {a : Option Addr} {n : Nat} {l : List UInt8} (h : BS w a n l) (hk : ∀ p : Addr, p.block < w.heap.size → w'.cell? p = w.cell? p) : BS w' a n l := by
  refine ⟨h.1, fun hn => ?_⟩
  obtain ⟨b, off, ha, hb, hc⟩ := h.open_ hn
  exact ⟨b, off, ha, fun j hj => (hk ⟨b, off + j, none⟩ hb).trans (hc j hj)⟩
theorem BS.below {w w' : World} {a : Option Addr} {n : Nat} {l : List UInt8} (h : BS w a n l) (hb : Below w.heap.size w w') : BS w' a n l :=
  h.keep fun _ hp => hb.cell hp
theorem BS.alloc {w : World} {a : Option Addr} {n : Nat} {l : List UInt8} (h : BS w a n l) (o : Obj) : BS (w.alloc o) a n l :=
  h.keep fun p hp => World.cell?_alloc_lt w o p hp
theorem BS.drew {w : World} {a : Option Addr} {n : Nat} {l : List UInt8} (h : BS w a n l) : BS w.drew a n l := h

theorem bt_succ (x : UInt8) (l : List UInt8) (j : Nat) : bt (x :: l) (j + 1) = bt l j := by simp [bt]
theorem bt_left {l m : List UInt8} {j : Nat} (h : j < l.length) : bt (l ++ m) j = bt l j := by unfold bt; rw [List.getElem?_append_left h]
theorem BS.tail {w : World} {b off n : Nat} {x : UInt8} {l : List UInt8} (h : BS w (some ⟨b, off, none⟩) n (x :: l)) : BS w (some ⟨b, off + 1, none⟩) (n - 1) l := by
  have hl := h.1
  simp only [List.length_cons] at hl
  refine ⟨by omega, fun hn => ⟨b, off + 1, rfl, fun j hj => ?_⟩⟩
  obtain ⟨b', off', he, hc⟩ := h.2 (by omega)
  injection he with he
  injection he with h1 h2
  subst h1 h2
  have := hc (j + 1) (by omega)
  rw [bt_succ] at this
  rw [Nat.add_assoc, Nat.add_comm 1 j]
  exact this
theorem BS.init {w : World} {a : Option Addr} {n : Nat} {x : UInt8} {l : List UInt8} (h : BS w a n (l ++ [x])) : BS w a (n - 1) l := by
  have hl := h.1
  simp only [List.length_append, List.length_cons, List.length_nil] at hl
  refine ⟨by omega, fun hn => ?_⟩
  obtain ⟨b, off, he, hc⟩ := h.2 (by omega)
  refine ⟨b, off, he, fun j hj => ?_⟩
  rw [hc j (by omega), bt_left (by omega)]

/-- what a row that the call itself has made reads as -/
theorem BS.of_own {w : World} {base : Nat} {e : TypeId} {v : Value} {n : Nat} {l : List UInt8} (h : w.ownsRow base e 1 v n (bvs l)) :
    ∃ a c, v = .slice a n c ∧ BS w a n l ∧ n ≤ c ∧ c ≤ maxLen := by
  have hl : l.length = n := by have := h.1; rw [bvs_length] at this; omega
  have h0 := h
  rcases h.2 with ⟨rfl, rfl⟩ | ⟨g, cap, cur, rfl, _, hh, hn, hc, hsz, htake⟩
  · exact ⟨none, 0, rfl, ⟨hl, fun h => absurd h (by omega)⟩, by omega, by omega⟩
  · refine ⟨some ⟨g, 0, none⟩, cap, rfl, ⟨hl, fun hpos => ⟨g, 0, rfl, fun j hj => ?_⟩⟩, hn, hc⟩
    have := h0.cells (g := g) rfl j (.int .u8 (bt l j)) (bvs_get (by omega))
    rw [add_at] at this
    exact this

/-- a list of bytes that has just been laid in a block of its own -/
theorem own_new (w : World) (e : TypeId) (l : List UInt8) (base : Nat) (hb : base ≤ w.heap.size) (hl : l.length ≤ maxLen) :
    (w.alloc (.cells (bvs l).toArray e)).ownsRow base e 1 (.slice (some ⟨w.heap.size, 0, none⟩) l.length l.length) l.length (bvs l) := by
  refine ⟨by simp [bvs_length], .inr ⟨w.heap.size, l.length, (bvs l).toArray, rfl, hb, heap_alloc_new w _, Nat.le_refl _, hl, by simp [bvs_length], ?_⟩⟩
  rw [Nat.mul_one, ← bvs_length l]
  exact List.take_length
/-- a row of the call's own lies untouched by what leaves all blocks below B alone -/
theorem own_below {w w' : World} {base : Nat} {e : TypeId} {v : Value} {n : Nat} {xs : List Value} (h : w.ownsRow base e 1 v n xs) (hb : Below w.heap.size w w') : w'.ownsRow base e 1 v n xs := by
  refine ⟨h.1, ?_⟩
  rcases h.2 with ⟨h1, h2⟩ | ⟨g, cap, cur, rfl, hg, hh, hr⟩
  · exact .inl ⟨h1, h2⟩
  · have hlt : g < w.heap.size := by
      rcases Nat.lt_or_ge g w.heap.size with hlt | hge
      · exact hlt
      · rw [Array.getElem?_eq_none hge] at hh; cases hh
    exact .inr ⟨g, cap, cur, rfl, hg, (hb.block g hlt).trans hh, hr⟩
theorem own_at_below {w w' : World} {base B : Nat} {e : TypeId} {g n c : Nat} {xs : List Value} (h : w.ownsRow base e 1 (.slice (some ⟨g, 0, none⟩) n c) n xs) (hb : Below B w w') (hg : g < B) : w'.ownsRow base e 1 (.slice (some ⟨g, 0, none⟩) n c) n xs := by
  refine ⟨h.1, ?_⟩
  rcases h.2 with ⟨h1, h2⟩ | ⟨g', cap, cur, h1, hg', hh, hr⟩
  · cases h1
  · simp only [Value.slice.injEq, Option.some.injEq, Addr.mk.injEq, and_true, true_and] at h1
    obtain ⟨rfl, rfl⟩ := h1
    exact .inr ⟨g, c, cur, rfl, hg', (hb.block g hg).trans hh, hr⟩
/-- a call that hands back bytes in new memory or in old, and changes nothing old -/
def Hands (w : World) (n : Nat) (o : List UInt8) (e : Ending) (w' : World) : Prop := ∃ a c, e = .returned (.slice a n c) ∧ BS w' a n o ∧ Below w.heap.size w w' ∧ n ≤ c
theorem BS.one (w : World) (e : TypeId) (b : UInt8) (x : Int) (hx : x = (b.toNat : Int)) : BS (w.alloc (.cells #[.int .u8 x] e)) (some ⟨w.heap.size, 0, none⟩) 1 [b] := by
  subst hx
  refine ⟨rfl, fun _ => ⟨w.heap.size, 0, rfl, fun j hj => ?_⟩⟩
  obtain rfl : j = 0 := by omega
  rw [World.cell?_alloc_new]
  rfl

section
variable {P : Program} (w : World)
theorem run_append_none (base : Nat) (t ty e : TypeId) (i : TypeInfo) (ht : P.underlying t = some (.slice e)) (hi : P.info? e = some i)
    (v : Value) (n : Nat) (xs : List Value) (hown : w.ownsRow base e 1 v n xs) (c : Nat) : (Builtin.append_ #[t, t] ty #[v, .slice none 0 c]).run P w = .ok v w := by
  rcases hown.2 with ⟨rfl, rfl⟩ | ⟨g, cap, cur, rfl, _, _, hnc, _⟩
  · simp [Builtin.append_, run_underlying ht, sizeOf, typeInfo, hi, Builtin.lenOf, Builtin.firstCells]
  · simp [Builtin.append_, run_underlying ht, sizeOf, typeInfo, hi, Builtin.lenOf, Builtin.firstCells, hnc, storeCells]

/-- append onto bytes of the call's own, from whatever source -/
theorem run_append_bs (base : Nat) (t ty e : TypeId) (i : TypeInfo) (z : Value) (ht : P.underlying t = some (.slice e)) (hi : P.info? e = some i) (hz : i.zero = some z)
    (hsize : i.size = 1) (hby : i.bytes = 1) (hzs : z.cells.size = 1)
    (v : Value) (n : Nat) (l : List UInt8) (hown : w.ownsRow base e 1 v n (bvs l)) (A : Option Addr) (m c : Nat) (k : List UInt8) (hr : BS w A m k)
    (h47 : n + m ≤ 140737488355328) (hbase : base ≤ w.heap.size) :
    ∃ a' c' w', (Builtin.append_ #[t, t] ty #[v, .slice A m c]).run P w = .ok (.slice a' (n + m) c') w' ∧ w'.ownsRow base e 1 (.slice a' (n + m) c') (n + m) (bvs (l ++ k)) ∧ BS w' a' (n + m) (l ++ k) ∧ n + m ≤ c' ∧ c' ≤ maxLen ∧ Below base w w' := by
  have hrow : ∀ g, v.ownBlock = some g → base ≤ g := by
    intro g hg
    rcases hown.2 with ⟨rfl, rfl⟩ | ⟨g', cap, cur, rfl, hb, _⟩
    · simp [Value.ownBlock] at hg
    · simp [Value.ownBlock] at hg
      omega
  have key : ∃ v' w', (Builtin.append_ #[t, t] ty #[v, .slice A m c]).run P w = .ok v' w' ∧ w'.ownsRow base e 1 v' (n + m) (bvs (l ++ k)) ∧ w.grownBy w' v.ownBlock := by
    rcases A with _ | ad
    · have hm : m = 0 := by
        rcases Nat.eq_zero_or_pos m with h0 | h0
        · exact h0
        · obtain ⟨b, off, h, _⟩ := hr.2 h0
          cases h
      subst hm
      have hk : k = [] := List.eq_nil_of_length_eq_zero hr.1
      subst hk
      exact ⟨v, w, run_append_none w base t ty e i ht hi v n _ hown c, by simpa using hown, World.grownBy.refl w _⟩
    · have hcells : ∀ j u, (bvs k)[j]? = some u → w.cell? (ad.add j) = some u := by
        intro j u hu
        have hj : j < (bvs k).length := (List.getElem?_eq_some_iff.1 hu).1
        rw [bvs_length, hr.1] at hj
        obtain ⟨b, off, h, hc⟩ := hr.2 (by omega)
        injection h with h
        subst h
        rw [bvs_get (by rw [hr.1]; exact hj)] at hu
        rw [add_at, hc j hj]
        exact hu
      obtain ⟨v', w', hrun, h2, h3, _, _⟩ := run_append_own_at (P := P) w base t ty e i z 1 1 ht hi hz hsize hby hzs (by omega) v n (bvs l) hown ad m c (bvs k) (by rw [bvs_length, hr.1]; omega) hcells (bvs_oneCell k) (by unfold maxLen; omega) (by omega) hbase
      exact ⟨v', w', hrun, by rw [bvs_append]; exact h2, h3⟩
  obtain ⟨v', w', h1, h2, h3⟩ := key
  obtain ⟨a', c', rfl, h4, h5, h6⟩ := BS.of_own h2
  exact ⟨a', c', w', h1, h2, h4, h5, h6, (Below.refl base w).grown h3 hbase hrow⟩

theorem wp_append_bs {o : Oper} {a : Act} {K : Act → World → Prop} {Q : Exit → Act → World → Prop} (s x : Operand) (t : TypeId)
    (ho : o.op = .call { callee := .builtin .append, args := #[s, x], argTypes := #[t, t] })
    (base : Nat) (e : TypeId) (i : TypeInfo) (z : Value) (ht : P.underlying t = some (.slice e)) (hi : P.info? e = some i) (hz : i.zero = some z)
    (hsize : i.size = 1) (hby : i.bytes = 1) (hzs : z.cells.size = 1)
    (v : Value) (n : Nat) (l : List UInt8) (hs : a.eval s = v) (hown : w.ownsRow base e 1 v n (bvs l)) (A : Option Addr) (m c : Nat) (k : List UInt8) (hx : a.eval x = .slice A m c) (hr : BS w A m k)
    (h47 : n + m ≤ 140737488355328) (hbase : base ≤ w.heap.size)
    (h : ∀ a' c' w', w'.ownsRow base e 1 (.slice a' (n + m) c') (n + m) (bvs (l ++ k)) → BS w' a' (n + m) (l ++ k) → n + m ≤ c' → c' ≤ maxLen → Below base w w' → K (a.put o.dst (.slice a' (n + m) c')) w') : o.wp P a w K Q := by
  obtain ⟨a', c', w', hrun, h2, h3, h4, h5, h6⟩ := run_append_bs (P := P) w base t o.type e i z ht hi hz hsize hby hzs v n l hown A m c k hr h47 hbase
  unfold Oper.wp execOp
  simp only [ho, resolve, invoke, builtin, Sem.run_bind, Sem.run_pure, Result.andThen_ok, List.map_toArray, List.map_cons, List.map_nil, hs, hx, hrun]
  exact h a' c' w' h2 h3 h4 h5 h6

/-- at the operation, for the walk (a guarded one too, where its guard lets it run) -/
theorem wpList_append_bs {ops : Array Oper} {rest : List Oper} {o : Oper} {a : Act} {Q : Exit → Act → World → Prop} (hgd : Region.wanted o (yielded ops a.tmps) = true) (s x : Operand) (t : TypeId)
    (ho : o.op = .call { callee := .builtin .append, args := #[s, x], argTypes := #[t, t] })
    (base : Nat) (e : TypeId) (i : TypeInfo) (z : Value) (ht : P.underlying t = some (.slice e)) (hi : P.info? e = some i) (hz : i.zero = some z)
    (hsize : i.size = 1) (hby : i.bytes = 1) (hzs : z.cells.size = 1)
    (v : Value) (n : Nat) (l : List UInt8) (hs : a.eval s = v) (hown : w.ownsRow base e 1 v n (bvs l)) (A : Option Addr) (m c : Nat) (k : List UInt8) (hx : a.eval x = .slice A m c) (hr : BS w A m k)
    (h47 : n + m ≤ 140737488355328) (hbase : base ≤ w.heap.size)
    (h : ∀ a' c' w', w'.ownsRow base e 1 (.slice a' (n + m) c') (n + m) (bvs (l ++ k)) → BS w' a' (n + m) (l ++ k) → n + m ≤ c' → c' ≤ maxLen → Below base w w' → wpList P ops Q rest (a.put o.dst (.slice a' (n + m) c')) w') : wpList P ops Q (o :: rest) a w :=
  wpList_step fun K hK => by
    rw [if_pos hgd]
    exact wp_append_bs w s x t ho base e i z ht hi hz hsize hby hzs v n l hs hown A m c k hx hr h47 hbase fun a' c' w' h2 h3 h4 h5 h6 => hK _ _ (h a' c' w' h2 h3 h4 h5 h6)
end

/-- so many zero bytes -/
def zeros (n : Nat) : List UInt8 := List.replicate n 0
theorem zeros_length (n : Nat) : (zeros n).length = n := by simp [zeros]
theorem made_zeros (n : Nat) : (madeCells (Value.int .u8 0).cells (n * 1)).toList = bvs (zeros n) := by
  apply List.ext_getElem
  · simp [size_madeCells, bvs_length, zeros_length]
  · intro i h1 h2
    simp [madeCells, Value.cells, bvs, zeros, Nat.mod_one]
theorem bvs_set (l : List UInt8) (i : Nat) (b : UInt8) (x : Int) (hx : x = (b.toNat : Int)) : (bvs l).set i (.int .u8 x) = bvs (l.set i b) := by
  subst hx
  simp [bvs, List.map_set]

/-- 'make([]byte, n)', at the operation -/
theorem wpList_make_bs {P : Program} (w : World) {ops : Array Oper} {rest : List Oper} {o : Oper} {a : Act} {Q : Exit → Act → World → Prop}
    (hg : o.guard = none) (x y : Operand) (t : TypeId) (hop : o.op = Op.makeSlice t x y)
    (base : Nat) (e : TypeId) (i : TypeInfo) (h1 : P.underlying t = some (.slice e)) (h2 : P.info? e = some i) (h3 : i.zero = some (.int .u8 0)) (h4 : i.size = 1) (h5 : i.bytes = 1)
    (n : Nat) (hl : a.eval x = .int .i64 (n : Int)) (hc : a.eval y = .int .i64 (n : Int)) (b2 : n ≤ 281474976710656) (b4 : base ≤ w.heap.size)
    (hK : ∀ w', w'.ownsRow base e 1 (.slice (some ⟨w.heap.size, 0, none⟩) n n) n (bvs (zeros n)) → Below w.heap.size w w' → w.heap.size < w'.heap.size → wpList P ops Q rest (a.put o.dst (.slice (some ⟨w.heap.size, 0, none⟩) n n)) w') :
    wpList P ops Q (o :: rest) a w := by
  refine wpList_make_full w hg x y t hop base e i (.int .u8 0) 1 h1 h2 h3 h4 .i64 .i64 n n n hl hc rfl rfl (by rw [h5]; omega) (by unfold maxLen; omega) b4 (fun w' r1 r2 => ?_)
  rw [made_zeros] at r1
  refine hK w' r1 ((Below.refl _ _).grown r2 (Nat.le_refl _) (fun k hk => by cases hk)) ?_
  rcases r1.2 with ⟨h, _⟩ | ⟨g, cap, cur, h, _, hh, _⟩
  · simp at h
  · simp only [Value.slice.injEq, Option.some.injEq, Addr.mk.injEq, and_true, true_and] at h
    obtain ⟨rfl, rfl⟩ := h
    rcases Nat.lt_or_ge w.heap.size w'.heap.size with hlt | hge
    · exact hlt
    · rw [Array.getElem?_eq_none hge] at hh; cases hh

/-- '[]byte(s)': what it lays reads as the text's bytes -/
theorem BS.of_bytes (w : World) (s : ByteArray) (k : Nat) (e : TypeId) (m : Nat × Nat) : BS ((w.alloc (.cells (bytesRow s k) e m)).drew) (some ⟨w.heap.size, 0, none⟩) s.size s.data.toList := by
  have hl : s.data.toList.length = s.size := by rw [Array.length_toList]; rfl
  refine ⟨hl, fun _ => ⟨w.heap.size, 0, rfl, fun j hj => ?_⟩⟩
  rw [World.cell?_drew, Nat.zero_add, World.cell?_alloc_mark]
  unfold bytesRow
  rw [Array.getElem?_append_left (by simpa using hj), bt_of (by rw [hl]; exact hj)]
  rw [Array.getElem?_map]
  have : s.data[j]? = some s.data.toList[j] := by
    rw [Array.getElem?_eq_getElem (by simpa using hj)]
    simp
  rw [this]
  rfl

theorem BS.of_row (w : World) (s : ByteArray) (k : Nat) (e : TypeId) (m : Nat × Nat) : BS (w.alloc (.cells (bytesRow s k) e m)) (some ⟨w.heap.size, 0, none⟩) s.size s.data.toList := BS.of_bytes w s k e m
/-- 'string(b)' -/
theorem run_string_bs {P : Program} {w : World} (src dst e : TypeId) (hs : P.underlying src = some (.slice e)) (he : P.underlying e = some (.int .u8)) (hd : P.underlying dst = some .string)
    {a : Option Addr} {n : Nat} (c : Nat) {l : List UInt8} (h : BS w a n l) : (convert src dst (.slice a n c)).run P w = .ok (.string ⟨l.toArray⟩) w := by
  rcases a with _ | ad
  · have hn : n = 0 := by
      rcases Nat.eq_zero_or_pos n with h0 | h0
      · exact h0
      · obtain ⟨b, off, h, _⟩ := h.2 h0
        cases h
    subst hn
    rw [List.eq_nil_of_length_eq_zero h.1]
    exact run_convert_bytes_nil w src e hs he 0 c dst hd
  · have hlen := h.1
    subst hlen
    refine run_convert_bytes_back w src dst e ad c l hs he hd (fun j hj => ?_)
    obtain ⟨b, off, ha, hc⟩ := h.2 (by omega)
    injection ha with ha
    subst ha
    rw [add_at, hc j hj, bt_of hj]

section
variable {H : Type} {enc : TypeId × Value → H} {P : Program} {W : World}
theorem open_bytes {t e : TypeId} (ht : P.underlying t = some (.slice e)) (he : P.underlying e = some (.int .u8)) (hc : P.cellsOf e = 1) (hby : P.bytesOf e = 1)
    {a : Option Addr} {len cap : Nat} {d : DataW H} {p : List MemPlace} (h : DataW.Trod enc P W 0 (fun _ => true) true t (.slice a len cap) d p)
    {ts : List TypeId} {ds : List (DataW H)} {j : Nat} (hsz : (DataW.weightsEach P ts ds).all (· ≤ reachBytes) = true) (htj : ts[j]? = some t) (hdj : ds[j]? = some d) :
    ∃ l, BS W a len l ∧ len ≤ cap ∧ cap ≤ 140737488351232 := by
  obtain ⟨fuel, hf⟩ := h
  rcases open_ints ht he hc hf with ⟨hcs, hx⟩ | ⟨x, l, c, zs, hcs, _, hl, hm, hz, hx, hcell, hwz⟩
  · simp [Value.cells] at hcs
    obtain ⟨rfl, rfl, rfl⟩ := hcs
    exact ⟨[], BS.empty _ _, by omega, by omega⟩
  · simp [Value.cells] at hcs
    obtain ⟨rfl, rfl, rfl⟩ := hcs
    simp only [Prod.mk.injEq] at hx
    obtain ⟨rfl, rfl⟩ := hx
    simp only [if_true] at hz
    have hr := sized_slice hsz htj hdj ht
    rw [hby] at hr
    simp only [lits, List.length_map, List.length_take, List.length_drop, reachBytes] at hr
    have hrange := range_u8 hwz
    refine ⟨(zs.take len).map fun n => UInt8.ofNat n.toNat, ⟨by simp; omega, fun hpos => ?_⟩, hl, by omega⟩
    obtain ⟨b, off, spot⟩ := x
    have hspot : spot = none := by simpa [Addr.add] using World.cell?_spot (hcell 0 (by omega))
    subst hspot
    refine ⟨b, off, rfl, fun i hi => ?_⟩
    have hci := hcell i (by omega)
    rw [add_at] at hci
    rw [hci, bt_of (by simp; omega)]
    have hr := hrange i
    have hiz : i < zs.length := by omega
    simp only [List.getD, List.getElem?_eq_getElem hiz, Option.getD_some, List.getElem_map, List.getElem_take] at hr ⊢
    congr 2
    rw [UInt8.toNat_ofNat']
    omega
end

theorem b64 {n : Int} (h : (Lit.int .i64 n).wf = true) : -9223372036854775808 ≤ n ∧ n ≤ 9223372036854775807 := bounds_i64 h
theorem ret_int {k : IntKind} {a b : Int} (h : a = b) : Ending.returned (.int k a) = .returned (.int k b) := by rw [h]
theorem ret_bool {a b : Bool} (h : a = b) : Ending.returned (.bool a) = .returned (.bool b) := by rw [h]

end Go.Proofs.Ytdjnlfchdfhbhaa
