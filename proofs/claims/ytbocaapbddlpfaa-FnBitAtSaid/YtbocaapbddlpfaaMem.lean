/-
  Words for byte slices that came in, or that a call has made: the slice reads as a list of bytes. No condition.
-/
import Derived.Test.YtbocaapbddlpfaaRows
import Derived.WalkKit
import Derived.ProofKit
import Derived.OpenShut
import Derived.ShutString
import Derived.ChangeOld
import Derived.Below
import Derived.SizedLaws
import Derived.Laws.IdiomStrings
import Derived.Lib.Hide
namespace Go.Proofs.Ytbocaapbddlpfaa
open Go.ChangeShapes Go.WideShapes Go.ChangeAt Go.RowKit

theorem own : ownKnob Try.prog.godebug = none := by kernel_rfl
theorem laidOut : laidOutB Try.prog = true := by kernel_rfl

theorem add_at (b off i : Nat) : (⟨b, off, none⟩ : Addr).add i = ⟨b, off + i, none⟩ := by unfold Addr.add; split <;> simp_all

/-- the byte at a place, as a number; 0 beyond the end -/
def bt (l : List UInt8) (j : Nat) : Int := ((l[j]?.getD 0).toNat : Int)
theorem bt_nonneg (l : List UInt8) (j : Nat) : 0 ≤ bt l j := by unfold bt; omega
theorem bt_le (l : List UInt8) (j : Nat) : bt l j ≤ 255 := by
  unfold bt; have := (l[j]?.getD 0).toNat_lt; omega
theorem bt_of {l : List UInt8} {j : Nat} (h : j < l.length) : bt l j = (l[j].toNat : Int) := by
  unfold bt; rw [List.getElem?_eq_getElem h]; rfl
theorem bt_out {l : List UInt8} {j : Nat} (h : l.length ≤ j) : bt l j = 0 := by
  unfold bt; rw [List.getElem?_eq_none h]; rfl

/-- the cells of a list of bytes -/
def bvs (l : List UInt8) : List Value := l.map fun b => Value.int .u8 b.toNat
theorem bvs_length (l : List UInt8) : (bvs l).length = l.length := by simp [bvs]
theorem bvs_get {l : List UInt8} {j : Nat} (h : j < l.length) : (bvs l)[j]? = some (.int .u8 (bt l j)) := by
  unfold bvs; rw [List.getElem?_map, List.getElem?_eq_getElem h, bt_of h]; rfl
theorem bvs_append (l m : List UInt8) : bvs (l ++ m) = bvs l ++ bvs m := by simp [bvs]
theorem bvs_oneCell (l : List UInt8) : ∀ u ∈ bvs l, u.oneCell' = true := by
  intro u hu
  simp only [bvs, List.mem_map] at hu
  obtain ⟨b, _, rfl⟩ := hu
  rfl

/-- THE SLICE '.slice a n _' READS AS THE BYTES l (nil and empty ones included) -/
def BS (w : World) (a : Option Addr) (n : Nat) (l : List UInt8) : Prop :=
  l.length = n ∧ (0 < n → ∃ b off, a = some ⟨b, off, none⟩ ∧ ∀ j, j < n → w.cell? ⟨b, off + j, none⟩ = some (.int .u8 (bt l j)))

theorem BS.length {w : World} {a : Option Addr} {n : Nat} {l : List UInt8} (h : BS w a n l) : l.length = n := h.1
theorem BS.empty (w : World) (a : Option Addr) : BS w a 0 [] := ⟨rfl, fun h => absurd h (by omega)⟩
theorem BS.open_ {w : World} {a : Option Addr} {n : Nat} {l : List UInt8} (h : BS w a n l) (hn : 0 < n) :
    ∃ b off, a = some ⟨b, off, none⟩ ∧ b < w.heap.size ∧ ∀ j, j < n → w.cell? ⟨b, off + j, none⟩ = some (.int .u8 (bt l j)) := by
  obtain ⟨b, off, ha, hc⟩ := h.2 hn
  exact ⟨b, off, ha, World.block_lt_of_cell? (a := ⟨b, off + 0, none⟩) w (hc 0 hn), hc⟩
theorem BS.keep {w w' : World} {a : Option Addr} {n : Nat} {l : List UInt8} (h : BS w a n l) (hk : ∀ p : Addr, p.block < w.heap.size → w'.cell? p = w.cell? p) : BS w' a n l := by
  refine ⟨h.1, fun hn => ?_⟩
  obtain ⟨b, off, ha, hb, hc⟩ := h.open_ hn
  exact ⟨b, off, ha, fun j hj => (hk ⟨b, off + j, none⟩ hb).trans (hc j hj)⟩
theorem BS.below {w w' : World} {a : Option Addr} {n : Nat} {l : List UInt8} (h : BS w a n l) (hb : Below w.heap.size w w') : BS w' a n l :=
  h.keep fun _ hp => hb.cell hp
theorem BS.alloc {w : World} {a : Option Addr} {n : Nat} {l : List UInt8} (h : BS w a n l) (o : Obj) : BS (w.alloc o) a n l :=
  h.keep fun p hp => World.cell?_alloc_lt w o p hp
theorem BS.drew {w : World} {a : Option Addr} {n : Nat} {l : List UInt8} (h : BS w a n l) : BS w.drew a n l := h

/-- what a row that the call itself has made reads as -/
theorem BS.of_own {w : World} {base : Nat} {e : TypeId} {v : Value} {n : Nat} {l : List UInt8} (h : w.ownsRow base e 1 v n (bvs l)) :
    ∃ a c, v = .slice a n c ∧ BS w a n l ∧ n ≤ c ∧ c ≤ maxLen := by
  have hl : l.length = n := by have := h.1; rw [bvs_length] at this; omega
  have h0 := h
  rcases h.2 with ⟨rfl, rfl⟩ | ⟨g, cap, cur, rfl, _, hh, hn, hc, hsz, htake⟩
  · exact ⟨none, 0, rfl, ⟨hl, fun h => absurd h (by omega)⟩, by omega, by omega⟩
  · refine ⟨some ⟨g, 0, none⟩, cap, rfl, ⟨hl, fun hpos => ⟨g, 0, rfl, fun j hj => ?_⟩⟩, hn, hc⟩
    have := h0.cells (g := g) rfl j (.int .u8 (bt l j)) (bvs_get (by omega))
    rw [add_at] at this
    exact this

section
variable {H : Type} {enc : TypeId × Value → H} {P : Program} {W : World}
theorem open_bytes {t e : TypeId} (ht : P.underlying t = some (.slice e)) (he : P.underlying e = some (.int .u8)) (hc : P.cellsOf e = 1) (hby : P.bytesOf e = 1)
    {a : Option Addr} {len cap : Nat} {d : DataW H} {p : List MemPlace} (h : DataW.Trod enc P W 0 (fun _ => true) true t (.slice a len cap) d p)
    {ts : List TypeId} {ds : List (DataW H)} {j : Nat} (hsz : (DataW.weightsEach P ts ds).all (· ≤ reachBytes) = true) (htj : ts[j]? = some t) (hdj : ds[j]? = some d) :
    ∃ l, BS W a len l ∧ len ≤ cap ∧ cap ≤ 140737488351232 := by
  obtain ⟨fuel, hf⟩ := h
  rcases open_ints ht he hc hf with ⟨hcs, hx⟩ | ⟨x, l, c, zs, hcs, _, hl, hm, hz, hx, hcell, hwz⟩
  · simp [Value.cells] at hcs
    obtain ⟨rfl, rfl, rfl⟩ := hcs
    exact ⟨[], BS.empty _ _, by omega, by omega⟩
  · simp [Value.cells] at hcs
    obtain ⟨rfl, rfl, rfl⟩ := hcs
    simp only [Prod.mk.injEq] at hx
    obtain ⟨rfl, rfl⟩ := hx
    simp only [if_true] at hz
    have hr := sized_slice hsz htj hdj ht
    rw [hby] at hr
    simp only [lits, List.length_map, List.length_take, List.length_drop, reachBytes] at hr
    have hrange := range_u8 hwz
    refine ⟨(zs.take len).map fun n => UInt8.ofNat n.toNat, ⟨by simp; omega, fun hpos => ?_⟩, hl, by omega⟩
    obtain ⟨b, off, spot⟩ := x
    have hspot : spot = none := by simpa [Addr.add] using World.cell?_spot (hcell 0 (by omega))
    subst hspot
    refine ⟨b, off, rfl, fun i hi => ?_⟩
    have hci := hcell i (by omega)
    rw [add_at] at hci
    rw [hci, bt_of (by simp; omega)]
    have hr := hrange i
    have hiz : i < zs.length := by omega
    simp only [List.getD, List.getElem?_eq_getElem hiz, Option.getD_some, List.getElem_map, List.getElem_take] at hr ⊢
    congr 2
    rw [UInt8.toNat_ofNat']
    omega
end

theorem b64 {n : Int} (h : (Lit.int .i64 n).wf = true) : -9223372036854775808 ≤ n ∧ n ≤ 9223372036854775807 := bounds_i64 h
theorem ret_int {k : IntKind} {a b : Int} (h : a = b) : Ending.returned (.int k a) = .returned (.int k b) := by rw [h]
theorem ret_bool {a b : Bool} (h : a = b) : Ending.returned (.bool a) = .returned (.bool b) := by rw [h]

end Go.Proofs.Ytbocaapbddlpfaa
