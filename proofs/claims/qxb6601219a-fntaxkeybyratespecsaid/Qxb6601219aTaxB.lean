import Derived.Test.Qxb6601219aTaxA
set_option linter.unusedSimpArgs false
set_option linter.unusedVariables false
namespace Go.Proofs.Qxb6601219a
open Go.RowKit

/-- Block g is a row of n tax keys (three cells each, no codes), the first j of which are those of rs. -/
def TRow (w : World) (g : Nat) (n j : Nat) (rs : List (Int × ByteArray)) : Prop :=
  ∃ f, w.rowIs g 42 (n * 3) f ∧ (∀ i, i < n → f (i * 3 + 2) = .map none) ∧ ∀ i, i < j → f (i * 3) = .int .i64 (kr rs i) ∧ f (i * 3 + 1) = .string (ka rs i)
theorem TRow.start (w : World) (n : Nat) (rs : List (Int × ByteArray)) : TRow (w.alloc (.cells (zeros (.agg #[.int .i64 0, .string ByteArray.empty, .map none]) (n * 3)) 42)) w.heap.size n 0 rs := by
  have hs : (zeros (.agg #[.int .i64 0, .string ByteArray.empty, .map none]) (n * 3)).size = n * 3 := size_madeCells _ _
  have h := World.rowIs_alloc w (zeros (.agg #[.int .i64 0, .string ByteArray.empty, .map none]) (n * 3)) 42 (fun i => ((zeros (.agg #[.int .i64 0, .string ByteArray.empty, .map none]) (n * 3))[i]?).getD (.map none)) (fun i hi => by rw [Array.getElem?_eq_getElem hi]; rfl)
  rw [hs] at h
  refine ⟨_, h, fun i hi => ?_, fun i h => by omega⟩
  have hc : (Value.agg #[.int .i64 0, .string ByteArray.empty, .map none]).cells = #[.int .i64 0, .string ByteArray.empty, .map none] := rfl
  have hlt : i * 3 + 2 < n * 3 := by omega
  have hmod : (i * 3 + 2) % 3 = 2 := by omega
  simp [zeros, hc, madeCells, hlt, hmod]
theorem TRow.step {w : World} {g : Nat} {n j : Nat} {rs : List (Int × ByteArray)} (h : TRow w g n j rs) :
    TRow ((w.setCell ⟨g, j * 3, none⟩ (.int .i64 (kr rs j))).setCell ⟨g, j * 3 + 1, none⟩ (.string (ka rs j))) g n (j + 1) rs := by
  obtain ⟨f, hf, h2, hc⟩ := h
  refine ⟨_, (hf.set (j * 3) _).set (j * 3 + 1) _, fun i hi => ?_, fun i hi => ?_⟩
  · have := h2 i hi
    simp only [this]
    rw [if_neg (by omega), if_neg (by omega)]
  by_cases ei : i = j
  · subst ei
    simp
  · have := hc i (by omega)
    simp only [this.1, this.2]
    constructor
    · rw [if_neg (by omega), if_neg (by omega)]
    · rw [if_neg (by omega), if_neg (by omega)]
theorem TRow.cell0 {w : World} {g : Nat} {n j : Nat} {rs : List (Int × ByteArray)} (h : TRow w g n j rs) {i : Nat} (hi : i < n) :
    ∃ u v, w.cell? ⟨g, i * 3, none⟩ = some u ∧ w.cell? ⟨g, i * 3 + 1, none⟩ = some v := by
  obtain ⟨f, hf, _⟩ := h
  exact ⟨_, _, hf.cell (by omega), hf.cell (by omega)⟩
theorem TRow.at {w : World} {g : Nat} {n j : Nat} {rs : List (Int × ByteArray)} (h : TRow w g n j rs) {i : Nat} (hi : i < j) (hn : i < n) :
    w.cell? ⟨g, i * 3, none⟩ = some (.int .i64 (kr rs i)) ∧ w.cell? ⟨g, i * 3 + 1, none⟩ = some (.string (ka rs i)) ∧ w.cell? ⟨g, i * 3 + 2, none⟩ = some (.map none) := by
  obtain ⟨f, hf, h2, hc⟩ := h
  refine ⟨?_, ?_, ?_⟩
  · rw [hf.cell (by omega), (hc i hi).1]
  · rw [hf.cell (by omega), (hc i hi).2]
  · rw [hf.cell (by omega), h2 i hn]
theorem TRow.frozen {w : World} {g : Nat} {n j : Nat} {rs : List (Int × ByteArray)} (h : TRow w g n j rs) (i : Nat) : w.frozen? ⟨g, i, none⟩ = false := by
  obtain ⟨f, hf, _⟩ := h
  exact hf.frozen i
theorem TRow.lt {w : World} {g : Nat} {n j : Nat} {rs : List (Int × ByteArray)} (h : TRow w g n j rs) : g < w.heap.size := by
  obtain ⟨f, hf, _⟩ := h
  exact hf.lt
theorem TRow.of_block {w w' : World} {g : Nat} {n j : Nat} {rs : List (Int × ByteArray)} (h : TRow w g n j rs) (hb : w'.heap[g]? = w.heap[g]?) : TRow w' g n j rs := by
  obtain ⟨f, hf, h2, hc⟩ := h
  exact ⟨f, hf.of_block hb, h2, hc⟩

/-- p points to a profile whose keys are those of rs, in block g. -/
def Prof (w : World) (p g n : Nat) (rs : List (Int × ByteArray)) : Prop :=
  p < w.heap.size ∧ w.cell? ⟨p, 6, none⟩ = some (.slice (some ⟨g, 0, none⟩) n n) ∧ TRow w g n n rs
def ProfEnd (n : Nat) (rs : List (Int × ByteArray)) (e : Ending) (w' : World) : Prop := ∃ p g, e = .returned (.pointer (some ⟨p, 0, none⟩)) ∧ Prof w' p g n rs

set_option maxHeartbeats 4000000 in
theorem profOf_any (a : Option Addr) (n cap : Nat) (rs : List (Int × ByteArray)) (w : World) (hn : Hid (rs.length = n)) (hm : n ≤ 1048576) (hp : KRows w a rs) :
    Calls Try.prog 16 #[.slice a n cap, .slice none 0 0] w fun e w' => ProfEnd n rs e w' ∧ Below w.heap.size w w' := by
  have hmk := make_run 43 42 _ 3 32 Try.underlying43 Try.info42 n (by omega) (by omega)
  go_enter Try.func16, Try.ntmps16
  go_wp2
  go_loopw [6] (fun k wr => ∃ j : Nat, j ≤ n ∧ k = .int .i64 j ∧ Below w.heap.size w wr ∧ TRow wr w.heap.size n j rs) (fun k _ => n - (intOf k).toNat)
  case atStart => exact ⟨0, by omega, rfl, (Below.refl _ _).alloc (Nat.le_refl _) _, TRow.start _ _ _⟩
  case round =>
    obtain ⟨j, hjn, rfl, hb, hf⟩ := hrel
    by_cases hlt : j < n
    · obtain ⟨b, off, rfl, hbl, c0, c1⟩ := hp j (by have := hn.out; omega)
      have c0' := (hb.cell hbl).trans c0
      have c1' := (hb.cell hbl).trans c1
      obtain ⟨u, v, d0, d1⟩ := hf.cell0 hlt
      have f0 := hf.frozen (j * 3)
      have f1 := hf.frozen (j * 3 + 1)
      have hbl2 : b ≠ w.heap.size := by omega
      clear hp c0 c1
      have hl : (j : Int) < (n : Int) := by omega
      go_wp2
      go_roundw
      case rel => exact ⟨j + 1, by omega, by go_num, (hb.setCell (Nat.le_refl _) _).setCell (Nat.le_refl _) _, hf.step⟩
      case measure => simp [intOf]; omega
    · have hl : ¬ (j : Int) < (n : Int) := by omega
      obtain rfl : j = n := by omega
      clear hp
      go_wp2
      go_loopw [7] (fun k wr2 => k = .int .i64 0 ∧ wr2 = wr) (fun _ _ => 0)
      case atStart => exact ⟨rfl, rfl⟩
      case round =>
        obtain ⟨rfl, rfl⟩ := hrel
        go_wp2
        go_ret
        refine ⟨⟨_, w.heap.size, rfl, ?_, ?_, ?_⟩, hb.alloc hb.size _⟩
        · simp
        · unfold World.cell?; rw [heap_alloc_new]; simp
        · exact hf.of_block (Below.heap_alloc _ _ _ hf.lt)

/-- How many of the first k rows match; which was the last, which the first. -/
def hit (rs : List (Int × ByteArray)) (r : Int) (ta : ByteArray) (i : Nat) : Bool := kr rs i == r && (ka rs i).toList == ta.toList
def cnt (rs : List (Int × ByteArray)) (r : Int) (ta : ByteArray) : Nat → Nat
  | 0 => 0
  | k + 1 => if hit rs r ta k then cnt rs r ta k + 1 else cnt rs r ta k
def lst (rs : List (Int × ByteArray)) (r : Int) (ta : ByteArray) : Nat → Option Nat
  | 0 => none
  | k + 1 => if hit rs r ta k then some k else lst rs r ta k
def fst' (rs : List (Int × ByteArray)) (r : Int) (ta : ByteArray) : Nat → Option Nat
  | 0 => none
  | k + 1 => match fst' rs r ta k with
    | some i => some i
    | none => if hit rs r ta k then some k else none
theorem cnt_le (rs : List (Int × ByteArray)) (r : Int) (ta : ByteArray) : ∀ k, cnt rs r ta k ≤ k
  | 0 => Nat.le_refl _
  | k + 1 => by have := cnt_le rs r ta k; unfold cnt; split <;> omega
theorem fst_lt (rs : List (Int × ByteArray)) (r : Int) (ta : ByteArray) : ∀ k i, fst' rs r ta k = some i → i < k
  | 0, i, h => by cases h
  | k + 1, i, h => by
    unfold fst' at h
    cases hf : fst' rs r ta k with
    | some j =>
      rw [hf] at h
      simp only [Option.some.injEq] at h
      have := fst_lt rs r ta k j hf
      omega
    | none =>
      rw [hf] at h
      simp only at h
      split at h
      · simp only [Option.some.injEq] at h; omega
      · cases h
theorem cnt_fst (rs : List (Int × ByteArray)) (r : Int) (ta : ByteArray) : ∀ k, (cnt rs r ta k = 0 ∧ fst' rs r ta k = none ∧ lst rs r ta k = none) ∨ (cnt rs r ta k = 1 ∧ ∃ i, fst' rs r ta k = some i ∧ lst rs r ta k = some i) ∨ (2 ≤ cnt rs r ta k ∧ ∃ i, fst' rs r ta k = some i)
  | 0 => .inl ⟨rfl, rfl, rfl⟩
  | k + 1 => by
    have ih := cnt_fst rs r ta k
    cases hh : hit rs r ta k with
    | true =>
      rcases ih with ⟨h1, h2, h3⟩ | ⟨h1, i, h2, h3⟩ | ⟨h1, i, h2⟩
      · exact .inr (.inl ⟨by simp [cnt, hh, h1], k, by simp [fst', h2, hh], by simp [lst, hh]⟩)
      · exact .inr (.inr ⟨by simp [cnt, hh, h1], i, by simp [fst', h2]⟩)
      · exact .inr (.inr ⟨by simp [cnt, hh]; omega, i, by simp [fst', h2]⟩)
    | false =>
      rcases ih with ⟨h1, h2, h3⟩ | ⟨h1, i, h2, h3⟩ | ⟨h1, i, h2⟩
      · exact .inl ⟨by simp [cnt, hh, h1], by simp [fst', h2, hh], by simp [lst, hh, h3]⟩
      · exact .inr (.inl ⟨by simp [cnt, hh, h1], i, by simp [fst', h2], by simp [lst, hh, h3]⟩)
      · exact .inr (.inr ⟨by simp [cnt, hh]; omega, i, by simp [fst', h2]⟩)
end Go.Proofs.Qxb6601219a
