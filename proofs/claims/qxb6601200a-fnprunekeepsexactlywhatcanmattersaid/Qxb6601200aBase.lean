import Derived.Test.Qxb6601200aProg
import Derived.WalkKit
import Derived.WalkSpells
import Derived.WalkLawsBesides
import Derived.Deep.QuietTactic
import Derived.BigQuiet
import Derived.Deep.LoopGhost
import Derived.Deep.Light
import Derived.Deep.DeepMust
import Derived.Deep.OwnRows
import Derived.Lib.SliceRun
namespace Go.Proofs.Qxb6601200a
open Go.RowKit

/-- The two numbers of pair i. -/
def P1 (xs : List (Int × Int)) (i : Nat) : Int := (xs.getD i (0, 0)).1
def P2 (xs : List (Int × Int)) (i : Nat) : Int := (xs.getD i (0, 0)).2

/-- A slice of pairs of numbers that is read: each of its pairs lies in two cells behind the slice's address. -/
def Pairs (w : World) (a : Option Addr) (xs : List (Int × Int)) : Prop :=
  ∀ i, i < xs.length → ∃ b off, a = some ⟨b, off, none⟩ ∧ b < w.heap.size ∧ w.cell? ⟨b, off + i * 2, none⟩ = some (.int .i64 (P1 xs i)) ∧ w.cell? ⟨b, off + i * 2 + 1, none⟩ = some (.int .i64 (P2 xs i))

/-- The call returns a bool that tells whether p. -/
def Tells (e : Ending) (p : Prop) : Prop := ∃ r, e = .returned (.bool r) ∧ (r = true ↔ p)
theorem Tells.yes {p : Prop} (h : p) : Tells (.returned (.bool true)) p := ⟨true, rfl, by simp [h]⟩
theorem Tells.no {p : Prop} (h : ¬ p) : Tells (.returned (.bool false)) p := ⟨false, rfl, by simp [h]⟩

/-- Only draws were made. -/
def Quiet (w w' : World) : Prop := ∃ m, w' = w.drewN m
theorem Quiet.refl (w : World) : Quiet w w := ⟨0, rfl⟩
theorem Quiet.drewN {w w' : World} (h : Quiet w w') (m : Nat) : Quiet w (w'.drewN m) := by
  obtain ⟨k, rfl⟩ := h
  exact ⟨k + m, World.drewN_drewN _ _ _⟩
theorem Quiet.drew {w w' : World} (h : Quiet w w') : Quiet w w'.drew := h.drewN 1
theorem Quiet.below {B : Nat} {w w' : World} (h : Quiet w w') : Below B w w' := by
  obtain ⟨k, rfl⟩ := h
  exact below_drewN (Below.refl _ _) k
theorem Pairs.below {w w' : World} {a : Option Addr} {xs : List (Int × Int)} (h : Pairs w a xs) (hb : Below w.heap.size w w') : Pairs w' a xs := by
  intro i hi
  obtain ⟨b, off, ha, hlt, c0, c1⟩ := h i hi
  exact ⟨b, off, ha, Nat.lt_of_lt_of_le hlt hb.size, (hb.cell hlt).trans c0, (hb.cell hlt).trans c1⟩
/-- Two pairs of one slice lie behind one address. -/
theorem Pairs.at {w : World} {a : Option Addr} {xs : List (Int × Int)} (h : Pairs w a xs) {b off : Nat} (ha : a = some ⟨b, off, none⟩) {i : Nat} (hi : i < xs.length) :
    w.cell? ⟨b, off + i * 2, none⟩ = some (.int .i64 (P1 xs i)) ∧ w.cell? ⟨b, off + i * 2 + 1, none⟩ = some (.int .i64 (P2 xs i)) := by
  obtain ⟨b', off', ha', _, c⟩ := h i hi
  rw [ha] at ha'
  simp only [Option.some.injEq, Addr.mk.injEq, and_true] at ha'
  obtain ⟨rfl, rfl⟩ := ha'
  exact c

/-- What 'make' lays. -/
def zeros (z : Value) (k : Nat) : Array Value := madeCells z.cells k
theorem make_run (t e : TypeId) (z : Value) (size bytes : Nat) (ht : Try.prog.underlying t = some (.slice e)) (hinfo : (Try.prog.info? e).map (fun i => (i.zero, i.size, i.bytes)) = some (some z, size, bytes))
    (n : Nat) (hb : bytes * n ≤ 281474976710656) (hn : n ≤ 9223372036854775807) (w : World) :
    (Instr.makeSlice t (.int .i64 (n : Int)) (.int .i64 (n : Int))).run Try.prog w = .ok (.slice (some ⟨w.heap.size, 0, none⟩) n n) (w.alloc (.cells (zeros z (n * size)) e)) := by
  obtain ⟨i, hi, hz, hs, hb'⟩ := info_parts hinfo
  have hb2 : (i.bytes : Int) * (n : Int) ≤ 281474976710656 := by
    rw [hb', ← Int.natCast_mul]; omega
  have hr := run_make (P := Try.prog) w t e i z ht hi hz .i64 .i64 n n (by omega) (Int.le_refl _) hb2 (by omega)
  simp only [Int.toNat_natCast, hs] at hr
  exact hr
theorem zeros_row (w : World) (z : Value) (k : Nat) (e : TypeId) : ∃ f, (w.alloc (.cells (zeros z k) e)).rowIs w.heap.size e k f := by
  have hs : (zeros z k).size = k := size_madeCells _ _
  have h := World.rowIs_alloc w (zeros z k) e (fun i => ((zeros z k)[i]?).getD z) (fun i hi => by rw [Array.getElem?_eq_getElem hi]; rfl)
  rw [hs] at h
  exact ⟨_, h⟩
theorem zeros_row1 (w : World) (z : Value) (hz : z.cells = #[z]) (k : Nat) (e : TypeId) : (w.alloc (.cells (zeros z k) e)).rowIs w.heap.size e k (fun _ => z) := by
  unfold zeros; rw [hz]; exact World.rowIs_made w z k e
theorem rowIs_drewN {w : World} {b : Nat} {t : TypeId} {n : Nat} {f : Nat → Value} (h : w.rowIs b t n f) (m : Nat) : (w.drewN m).rowIs b t n f := h.of_block rfl

/-- Block g is a row of n pairs, the first j of which are those of xs. -/
def PairRow (w : World) (g : Nat) (e : TypeId) (n j : Nat) (xs : List (Int × Int)) : Prop :=
  ∃ f, w.rowIs g e (n * 2) f ∧ ∀ i, i < j → f (i * 2) = .int .i64 (P1 xs i) ∧ f (i * 2 + 1) = .int .i64 (P2 xs i)
theorem PairRow.start (w : World) (z : Value) (e : TypeId) (n : Nat) (xs : List (Int × Int)) : PairRow (w.alloc (.cells (zeros z (n * 2)) e)) w.heap.size e n 0 xs := by
  obtain ⟨f, hf⟩ := zeros_row w z (n * 2) e
  exact ⟨f, hf, fun i h => by omega⟩
theorem PairRow.step {w : World} {g : Nat} {e : TypeId} {n j : Nat} {xs : List (Int × Int)} (h : PairRow w g e n j xs) :
    PairRow ((w.setCell ⟨g, j * 2, none⟩ (.int .i64 (P1 xs j))).setCell ⟨g, j * 2 + 1, none⟩ (.int .i64 (P2 xs j))) g e n (j + 1) xs := by
  obtain ⟨f, hf, hc⟩ := h
  refine ⟨_, (hf.set (j * 2) _).set (j * 2 + 1) _, fun i hi => ?_⟩
  by_cases ei : i = j
  · subst ei
    simp
  · have := hc i (by omega)
    simp only [this.1, this.2]
    constructor
    · rw [if_neg (by omega), if_neg (by omega)]
    · rw [if_neg (by omega), if_neg (by omega)]
theorem PairRow.pairs {w : World} {g : Nat} {e : TypeId} {n : Nat} {xs : List (Int × Int)} (h : PairRow w g e n n xs) (hn : xs.length = n) : Pairs w (some ⟨g, 0, none⟩) xs := by
  obtain ⟨f, hf, hc⟩ := h
  intro i hi
  refine ⟨g, 0, rfl, hf.lt, ?_, ?_⟩
  · rw [Nat.zero_add, hf.cell (by omega), (hc i (by omega)).1]
  · rw [Nat.zero_add, hf.cell (by omega), (hc i (by omega)).2]
theorem PairRow.cell0 {w : World} {g : Nat} {e : TypeId} {n j : Nat} {xs : List (Int × Int)} (h : PairRow w g e n j xs) {i : Nat} (hi : i < n) :
    ∃ u v, w.cell? ⟨g, i * 2, none⟩ = some u ∧ w.cell? ⟨g, i * 2 + 1, none⟩ = some v := by
  obtain ⟨f, hf, _⟩ := h
  exact ⟨_, _, hf.cell (by omega), hf.cell (by omega)⟩
theorem PairRow.frozen {w : World} {g : Nat} {e : TypeId} {n j : Nat} {xs : List (Int × Int)} (h : PairRow w g e n j xs) (i : Nat) : w.frozen? ⟨g, i, none⟩ = false := by
  obtain ⟨f, hf, _⟩ := h
  exact hf.frozen i
theorem PairRow.lt {w : World} {g : Nat} {e : TypeId} {n j : Nat} {xs : List (Int × Int)} (h : PairRow w g e n j xs) : g < w.heap.size := by
  obtain ⟨f, hf, _⟩ := h
  exact hf.lt
theorem PairRow.drewN {w : World} {g : Nat} {e : TypeId} {n j : Nat} {xs : List (Int × Int)} (h : PairRow w g e n j xs) (m : Nat) : PairRow (w.drewN m) g e n j xs := by
  obtain ⟨f, hf, hc⟩ := h
  exact ⟨f, rowIs_drewN hf m, hc⟩

/-- A call ends in a slice of the pairs xs. -/
def PairsEnd (n : Nat) (xs : List (Int × Int)) (e : Ending) (w' : World) : Prop := ∃ a cap, e = .returned (.slice a n cap) ∧ Pairs w' a xs

theorem Try.info30 : (Try.prog.info? 30).map (fun i => (i.zero, i.size, i.bytes)) = some (some (.agg #[.int .i64 0, .int .i64 0]), 2, 16) := by kernel_rfl
theorem Try.info65 : (Try.prog.info? 65).map (fun i => (i.zero, i.size, i.bytes)) = some (some (.agg #[.int .i64 0, .int .i64 0]), 2, 16) := by kernel_rfl

def Incr (xs : List (Int × Int)) : Prop := ∀ i, i + 1 < xs.length → P1 xs i < P1 xs (i + 1)

end Go.Proofs.Qxb6601200a
