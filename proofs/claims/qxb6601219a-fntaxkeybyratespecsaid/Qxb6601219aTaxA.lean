import Derived.Test.Qxb6601219aBase
set_option linter.unusedSimpArgs false
set_option linter.unusedVariables false
namespace Go.Proofs.Qxb6601219a
open Go.RowKit

/-- Rate and account of row i, behind names that the walk does not open. -/
def kr (rs : List (Int × ByteArray)) (i : Nat) : Int := (rs.getD i (0, ByteArray.empty)).1
def ka (rs : List (Int × ByteArray)) (i : Nat) : ByteArray := (rs.getD i (0, ByteArray.empty)).2
/-- A slice of rows (two cells each) that is read. -/
def KRows (w : World) (a : Option Addr) (rs : List (Int × ByteArray)) : Prop :=
  ∀ i, i < rs.length → ∃ b off, a = some ⟨b, off, none⟩ ∧ b < w.heap.size ∧ w.cell? ⟨b, off + i * 2, none⟩ = some (.int .i64 (kr rs i)) ∧ w.cell? ⟨b, off + i * 2 + 1, none⟩ = some (.string (ka rs i))
theorem KRows.below {w w' : World} {a : Option Addr} {rs : List (Int × ByteArray)} (h : KRows w a rs) (hb : Below w.heap.size w w') : KRows w' a rs := by
  intro i hi
  obtain ⟨b, off, ha, hlt, c0, c1⟩ := h i hi
  exact ⟨b, off, ha, Nat.lt_of_lt_of_le hlt hb.size, (hb.cell hlt).trans c0, (hb.cell hlt).trans c1⟩

/-- Block g is a row of n rows, the first j of which are those of rs. -/
def KRow (w : World) (g : Nat) (n j : Nat) (rs : List (Int × ByteArray)) : Prop :=
  ∃ f, w.rowIs g 38 (n * 2) f ∧ ∀ i, i < j → f (i * 2) = .int .i64 (kr rs i) ∧ f (i * 2 + 1) = .string (ka rs i)
theorem KRow.start (w : World) (z : Value) (n : Nat) (rs : List (Int × ByteArray)) : KRow (w.alloc (.cells (zeros z (n * 2)) 38)) w.heap.size n 0 rs := by
  obtain ⟨f, hf⟩ := zeros_row w z (n * 2) 38
  exact ⟨f, hf, fun i h => by omega⟩
theorem KRow.step {w : World} {g : Nat} {n j : Nat} {rs : List (Int × ByteArray)} (h : KRow w g n j rs) :
    KRow ((w.setCell ⟨g, j * 2, none⟩ (.int .i64 (kr rs j))).setCell ⟨g, j * 2 + 1, none⟩ (.string (ka rs j))) g n (j + 1) rs := by
  obtain ⟨f, hf, hc⟩ := h
  refine ⟨_, (hf.set (j * 2) _).set (j * 2 + 1) _, fun i hi => ?_⟩
  by_cases ei : i = j
  · subst ei
    simp
  · have := hc i (by omega)
    simp only [this.1, this.2]
    constructor
    · rw [if_neg (by omega), if_neg (by omega)]
    · rw [if_neg (by omega), if_neg (by omega)]
theorem KRow.rows {w : World} {g : Nat} {n : Nat} {rs : List (Int × ByteArray)} (h : KRow w g n n rs) (hn : rs.length = n) : KRows w (some ⟨g, 0, none⟩) rs := by
  obtain ⟨f, hf, hc⟩ := h
  intro i hi
  refine ⟨g, 0, rfl, hf.lt, ?_, ?_⟩
  · rw [Nat.zero_add, hf.cell (by omega), (hc i (by omega)).1]
  · rw [Nat.zero_add, hf.cell (by omega), (hc i (by omega)).2]
theorem KRow.cell0 {w : World} {g : Nat} {n j : Nat} {rs : List (Int × ByteArray)} (h : KRow w g n j rs) {i : Nat} (hi : i < n) :
    ∃ u v, w.cell? ⟨g, i * 2, none⟩ = some u ∧ w.cell? ⟨g, i * 2 + 1, none⟩ = some v := by
  obtain ⟨f, hf, _⟩ := h
  exact ⟨_, _, hf.cell (by omega), hf.cell (by omega)⟩
theorem KRow.frozen {w : World} {g : Nat} {n j : Nat} {rs : List (Int × ByteArray)} (h : KRow w g n j rs) (i : Nat) : w.frozen? ⟨g, i, none⟩ = false := by
  obtain ⟨f, hf, _⟩ := h
  exact hf.frozen i

theorem Try.info38 : (Try.prog.info? 38).map (fun i => (i.zero, i.size, i.bytes)) = some (some (.agg #[.int .i64 0, .string ByteArray.empty]), 2, 24) := by kernel_rfl
theorem Try.info42 : (Try.prog.info? 42).map (fun i => (i.zero, i.size, i.bytes)) = some (some (.agg #[.int .i64 0, .string ByteArray.empty, .map none]), 3, 32) := by kernel_rfl

def NumEnd (p : Int → Prop) (e : Ending) : Prop := ∃ t, e = .returned (.int .i64 t) ∧ p t

set_option maxHeartbeats 4000000 in
theorem rowsBytes_any (a : Option Addr) (n cap : Nat) (rs : List (Int × ByteArray)) (w : World) (HN : Hid (rs.length = n)) (hn : n ≤ 65536) (hp : KRows w a rs) :
    Calls Try.prog 14 #[.slice a n cap] w fun e w' => NumEnd (fun t => 0 ≤ t ∧ t ≤ 1048577) e ∧ w' = w := by
  go_enter Try.func14, Try.ntmps14
  go_wp2
  go_loopw [3, 4] (fun t i wr => ∃ (j : Nat) (s : Nat), j ≤ n ∧ s ≤ 1048576 ∧ t = .int .i64 s ∧ i = .int .i64 j ∧ wr = w) (fun _ i _ => n - (intOf i).toNat)
  case atStart => exact ⟨0, 0, by omega, by omega, rfl, rfl, rfl⟩
  case round =>
    obtain ⟨j, s, hj, hs, rfl, rfl, rfl⟩ := hrel
    by_cases hlt : j < n
    · obtain ⟨b, off, rfl, hbl, c0, c1⟩ := hp j (by have := HN.out; omega)
      have hl : (j : Int) < (n : Int) := by omega
      clear hp
      by_cases h1 : (ka rs j).size ≤ 1048576
      · have h1' : ((ka rs j).size : Int) ≤ 1048576 := by omega
        by_cases h2 : s + (24 + (ka rs j).size) ≤ 1048576
        · have h2' : (s : Int) + (24 + ((ka rs j).size : Int)) ≤ 1048576 := by omega
          go_wp2
          go_roundw
          case rel => exact ⟨j + 1, s + (24 + (ka rs j).size), by omega, h2, by go_num, by go_num, by first | rfl | trivial⟩
          case measure => simp [intOf]; omega
        · have h2' : 1048576 < (s : Int) + (24 + ((ka rs j).size : Int)) := by omega
          clear h2
          go_wp2
          go_ret
          exact ⟨⟨_, rfl, by omega, by omega⟩, rfl⟩
      · have h1' : 1048576 < ((ka rs j).size : Int) := by omega
        clear h1
        go_wp2
        go_ret
        exact ⟨⟨_, rfl, by omega, by omega⟩, rfl⟩
    · obtain rfl : j = n := by omega
      go_wp2
      go_ret
      exact ⟨⟨_, rfl, by omega, by omega⟩, rfl⟩

/-- The call returns a slice of the rows. -/
def RowsEnd (n : Nat) (rs : List (Int × ByteArray)) (e : Ending) (w' : World) : Prop := ∃ a cap, e = .returned (.slice a n cap) ∧ KRows w' a rs

set_option maxHeartbeats 4000000 in
theorem copyRows_any (a : Option Addr) (n cap : Nat) (rs : List (Int × ByteArray)) (w : World) (hn : Hid (rs.length = n)) (hm : n ≤ 1048576) (hp : KRows w a rs) :
    Calls Try.prog 15 #[.slice a n cap] w fun e w' => RowsEnd n rs e w' ∧ Below w.heap.size w w' := by
  have hmk := make_run 27 38 _ 2 24 Try.underlying27 Try.info38 n (by omega) (by omega)
  have hnil := fun w' => Lib.run_eql_slice_nil (P := Try.prog) w' 27 38 a n cap 0 0 Try.underlying27
  cases ha : a.isNone with
  | true =>
    have h0 : n = 0 := by
      have := hn.out
      rcases Nat.eq_zero_or_pos n with h | h
      · exact h
      · obtain ⟨b, off, e, _⟩ := hp 0 (by omega)
        rw [e] at ha; cases ha
    have HX : Hid (n = 0) := h0
    clear h0
    go_enter Try.func15, Try.ntmps15
    go_wp2
    go_ret
    refine ⟨⟨none, 0, by rw [HX.out]; rfl, fun i hi => ?_⟩, Below.refl _ _⟩
    have := hn.out; have := HX.out; omega
  | false =>
    go_enter Try.func15, Try.ntmps15
    go_wp2
    go_loopw [4] (fun k wr => ∃ j : Nat, j ≤ n ∧ k = .int .i64 j ∧ Below w.heap.size w wr ∧ KRow wr w.heap.size n j rs) (fun k _ => n - (intOf k).toNat)
    case atStart => exact ⟨0, by omega, rfl, (Below.refl _ _).alloc (Nat.le_refl _) _, KRow.start _ _ _ _⟩
    case round =>
      obtain ⟨j, hjn, rfl, hb, hf⟩ := hrel
      by_cases hlt : j < n
      · obtain ⟨b, off, rfl, hbl, c0, c1⟩ := hp j (by have := hn.out; omega)
        have c0' := (hb.cell hbl).trans c0
        have c1' := (hb.cell hbl).trans c1
        obtain ⟨u, v, d0, d1⟩ := hf.cell0 hlt
        have f0 := hf.frozen (j * 2)
        have f1 := hf.frozen (j * 2 + 1)
        clear hp c0 c1
        have hl : (j : Int) < (n : Int) := by omega
        go_wp2
        go_roundw
        case rel => exact ⟨j + 1, by omega, by go_num, (hb.setCell (Nat.le_refl _) _).setCell (Nat.le_refl _) _, hf.step⟩
        case measure => simp [intOf]; omega
      · have hl : ¬ (j : Int) < (n : Int) := by omega
        obtain rfl : j = n := by omega
        clear hp
        go_wp2
        go_ret
        exact ⟨⟨_, _, rfl, hf.rows hn.out⟩, hb⟩

set_option maxHeartbeats 4000000 in
theorem bytes13_any (a : Option Addr) (n cap : Nat) (rs : List (Int × ByteArray)) (r : Int) (ta : ByteArray) (w : World) (HN : Hid (rs.length = n)) (hp : KRows w a rs) :
    Calls Try.prog 13 #[.slice a n cap, .int .i64 r, .string ta] w fun e w' => Bounds (n ≤ 1048576) e ∧ w' = w := by
  by_cases hn : n ≤ 1048576
  · have hn' : (n : Int) ≤ 1048576 := by omega
    go_enter Try.func13, Try.ntmps13
    go_wp2
    go_loopw [7, 8] (fun t i wr => ∃ (j : Nat) (s : Nat), j ≤ n ∧ s ≤ 1048576 ∧ t = .int .i64 s ∧ i = .int .i64 j ∧ wr = w) (fun _ i _ => n - (intOf i).toNat)
    case atStart => exact ⟨0, n, by omega, by omega, rfl, rfl, rfl⟩
    case round =>
      obtain ⟨j, s, hj, hs, rfl, rfl, rfl⟩ := hrel
      by_cases hlt : j < n
      · obtain ⟨b, off, rfl, hbl, c0, c1⟩ := hp j (by have := HN.out; omega)
        have hl : (j : Int) < (n : Int) := by omega
        clear hp
        by_cases h1 : (ka rs j).size ≤ 1048576
        · have h1' : ((ka rs j).size : Int) ≤ 1048576 := by omega
          by_cases h2 : s + (ka rs j).size ≤ 1048576
          · have h2' : (s : Int) + ((ka rs j).size : Int) ≤ 1048576 := by omega
            go_wp2
            go_roundw
            case rel => exact ⟨j + 1, s + (ka rs j).size, by omega, h2, by go_num, by go_num, by first | rfl | trivial⟩
            case measure => simp [intOf]; omega
          · have h2' : 1048576 < (s : Int) + ((ka rs j).size : Int) := by omega
            clear h2
            go_wp2
            go_ret
            exact ⟨⟨_, rfl, fun h => by cases h⟩, by first | rfl | trivial⟩
        · have h1' : 1048576 < ((ka rs j).size : Int) := by omega
          clear h1
          go_wp2
          go_ret
          exact ⟨⟨_, rfl, fun h => by cases h⟩, by first | rfl | trivial⟩
      · obtain rfl : j = n := by omega
        by_cases h1 : ta.size ≤ 1048576
        · have h1' : (ta.size : Int) ≤ 1048576 := by omega
          by_cases h2 : s + ta.size ≤ 1048576
          · have h2' : (s : Int) + (ta.size : Int) ≤ 1048576 := by omega
            go_wp2
            go_ret
            exact ⟨⟨_, rfl, fun _ => hn⟩, by first | rfl | trivial⟩
          · have h2' : 1048576 < (s : Int) + (ta.size : Int) := by omega
            clear h2
            go_wp2
            go_ret
            exact ⟨⟨_, rfl, fun h => by cases h⟩, by first | rfl | trivial⟩
        · have h1' : 1048576 < (ta.size : Int) := by omega
          clear h1
          go_wp2
          go_ret
          exact ⟨⟨_, rfl, fun h => by cases h⟩, by first | rfl | trivial⟩
  · have hn' : 1048576 < (n : Int) := by omega
    go_enter Try.func13, Try.ntmps13
    go_wp2
    go_ret
    exact ⟨⟨_, rfl, fun h => by cases h⟩, rfl⟩
end Go.Proofs.Qxb6601219a
