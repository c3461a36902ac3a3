import Derived.Test.Qxb6601200aBase
namespace Go.Proofs.Qxb6601200a
open Go.RowKit

/-- n cells behind a slice's address hold f 0, f 1, .. -/
def Row (w : World) (a : Option Addr) (n : Nat) (f : Nat → Value) : Prop :=
  ∀ i, i < n → ∃ b off, a = some ⟨b, off, none⟩ ∧ b < w.heap.size ∧ w.cell? ⟨b, off + i, none⟩ = some (f i)
theorem Row.below {w w' : World} {a : Option Addr} {n : Nat} {f : Nat → Value} (h : Row w a n f) (hb : Below w.heap.size w w') : Row w' a n f := by
  intro i hi
  obtain ⟨b, off, ha, hlt, c⟩ := h i hi
  exact ⟨b, off, ha, Nat.lt_of_lt_of_le hlt hb.size, (hb.cell hlt).trans c⟩
theorem Row.at {w : World} {a : Option Addr} {n : Nat} {f : Nat → Value} (h : Row w a n f) {b off : Nat} (ha : a = some ⟨b, off, none⟩) {i : Nat} (hi : i < n) : w.cell? ⟨b, off + i, none⟩ = some (f i) := by
  obtain ⟨b', off', ha', _, c⟩ := h i hi
  rw [ha] at ha'
  simp only [Option.some.injEq, Addr.mk.injEq, and_true] at ha'
  obtain ⟨rfl, rfl⟩ := ha'
  exact c
theorem Row.none {w : World} {a : Option Addr} {n : Nat} {f : Nat → Value} (h : Row w a n f) (ha : a.isNone = true) : n = 0 := by
  rcases Nat.eq_zero_or_pos n with e | e
  · exact e
  · obtain ⟨b, off, e1, _⟩ := h 0 e
    rw [e1] at ha; cases ha
theorem Row.congr {w : World} {a : Option Addr} {n : Nat} {f g : Nat → Value} (h : Row w a n f) (e : ∀ i, i < n → f i = g i) : Row w a n g := by
  intro i hi
  obtain ⟨b, off, ha, hlt, c⟩ := h i hi
  exact ⟨b, off, ha, hlt, by rw [c, e i hi]⟩

/-- Elements by index, behind names that the walk does not open. -/
def iat (zs : List Int) (i : Nat) : Int := zs.getD i 0
def bat (bs : List Bool) (i : Nat) : Bool := bs.getD i false
def sat (ss : List ByteArray) (i : Nat) : ByteArray := ss.getD i ByteArray.empty
theorem iat_app_lt {L M : List Int} {k : Nat} (h : k < L.length) : iat (L ++ M) k = iat L k := by simp [iat, List.getElem?_append_left h]
theorem iat_app_ge {L M : List Int} {k : Nat} : iat (L ++ M) (L.length + k) = iat M k := by simp [iat, List.getElem?_append_right]
theorem iat_ext {xs ys : List Int} (hl : xs.length = ys.length) (h : ∀ i, i < xs.length → iat xs i = iat ys i) : xs = ys := by
  refine List.ext_getElem hl fun i h1 h2 => ?_
  have := h i h1
  simpa [iat, List.getElem?_eq_getElem h1, List.getElem?_eq_getElem h2] using this
theorem iat_mem {xs : List Int} {i : Nat} (h : i < xs.length) : iat xs i ∈ xs := by
  simp [iat, List.getElem?_eq_getElem h]
theorem mem_iat {xs : List Int} {v : Int} (h : v ∈ xs) : ∃ i, i < xs.length ∧ iat xs i = v := by
  obtain ⟨i, hi, e⟩ := List.getElem_of_mem h
  exact ⟨i, hi, by simp [iat, List.getElem?_eq_getElem hi, e]⟩

def Ints (k : IntKind) (w : World) (a : Option Addr) (zs : List Int) : Prop := Row w a zs.length (fun i => .int k (iat zs i))
def Bools (w : World) (a : Option Addr) (bs : List Bool) : Prop := Row w a bs.length (fun i => .bool (bat bs i))
def Strs (w : World) (a : Option Addr) (ss : List ByteArray) : Prop := Row w a ss.length (fun i => .string (sat ss i))

structure Pat where
  text : ByteArray
  fold : Bool
  lit : Bool
def patNone : Pat := ⟨ByteArray.empty, false, false⟩
def ptx (ps : List Pat) (i : Nat) : ByteArray := (ps.getD i patNone).text
def pfo (ps : List Pat) (i : Nat) : Bool := (ps.getD i patNone).fold
def pli (ps : List Pat) (i : Nat) : Bool := (ps.getD i patNone).lit
/-- A slice of patterns (three cells each). -/
def Pats (w : World) (a : Option Addr) (ps : List Pat) : Prop :=
  ∀ i, i < ps.length → ∃ b off, a = some ⟨b, off, none⟩ ∧ b < w.heap.size ∧ w.cell? ⟨b, off + i * 3, none⟩ = some (.string (ptx ps i)) ∧ w.cell? ⟨b, off + i * 3 + 1, none⟩ = some (.bool (pfo ps i)) ∧ w.cell? ⟨b, off + i * 3 + 2, none⟩ = some (.bool (pli ps i))
theorem Pats.below {w w' : World} {a : Option Addr} {ps : List Pat} (h : Pats w a ps) (hb : Below w.heap.size w w') : Pats w' a ps := by
  intro i hi
  obtain ⟨b, off, ha, hlt, c0, c1, c2⟩ := h i hi
  exact ⟨b, off, ha, Nat.lt_of_lt_of_le hlt hb.size, (hb.cell hlt).trans c0, (hb.cell hlt).trans c1, (hb.cell hlt).trans c2⟩
theorem Pats.none {w : World} {a : Option Addr} {ps : List Pat} (h : Pats w a ps) (ha : a.isNone = true) : ps.length = 0 := by
  rcases Nat.eq_zero_or_pos ps.length with e | e
  · exact e
  · obtain ⟨b, off, e1, _⟩ := h 0 e
    rw [e1] at ha; cases ha

/-- How long the first k patterns' texts are together. -/
def tlenTo (ps : List Pat) : Nat → Nat
  | 0 => 0
  | k + 1 => tlenTo ps k + (ptx ps k).size
def tlen (ps : List Pat) : Nat := tlenTo ps ps.length
theorem tlenTo_mono {ps : List Pat} {i j : Nat} (h : i ≤ j) : tlenTo ps i ≤ tlenTo ps j := by
  induction j with
  | zero => obtain rfl : i = 0 := by omega
            exact Nat.le_refl _
  | succ j ih =>
    by_cases e : i = j + 1
    · subst e; exact Nat.le_refl _
    · have := ih (by omega); simp only [tlenTo]; omega
theorem ptx_le_tlen {ps : List Pat} {i : Nat} (h : i < ps.length) : (ptx ps i).size ≤ tlen ps := by
  have := tlenTo_mono (ps := ps) (show i + 1 ≤ ps.length from h)
  simp only [tlenTo] at this
  unfold tlen; omega

/-- Block g is a row of n cells, the first j of which are f 0, f 1 .. -/
def RowN (w : World) (g : Nat) (e : TypeId) (n j : Nat) (f : Nat → Value) : Prop := ∃ F, w.rowIs g e n F ∧ ∀ i, i < j → F i = f i
theorem RowN.start (w : World) (z : Value) (e : TypeId) (n : Nat) (f : Nat → Value) : RowN (w.alloc (.cells (zeros z n) e)) w.heap.size e n 0 f := by
  obtain ⟨F, hF⟩ := zeros_row w z n e
  exact ⟨F, hF, fun i h => by omega⟩
theorem RowN.start1 (w : World) (z : Value) (e : TypeId) (n : Nat) (f : Nat → Value) : RowN (w.alloc (.cells (zeros z (n * 1)) e)) w.heap.size e n 0 f := by
  rw [Nat.mul_one]; exact RowN.start w z e n f
theorem RowN.zero (w : World) (z : Value) (hz : z.cells = #[z]) (e : TypeId) (n : Nat) : RowN (w.alloc (.cells (zeros z n) e)) w.heap.size e n n (fun _ => z) :=
  ⟨_, zeros_row1 w z hz n e, fun _ _ => rfl⟩
theorem RowN.step {w : World} {g : Nat} {e : TypeId} {n j : Nat} {f : Nat → Value} (h : RowN w g e n j f) : RowN (w.setCell ⟨g, j, none⟩ (f j)) g e n (j + 1) f := by
  obtain ⟨F, hF, hc⟩ := h
  refine ⟨_, hF.set j _, fun i hi => ?_⟩
  by_cases ei : i = j
  · subst ei; simp
  · simp only [if_neg ei]; exact hc i (by omega)
theorem RowN.cell {w : World} {g : Nat} {e : TypeId} {n j : Nat} {f : Nat → Value} (h : RowN w g e n j f) {i : Nat} (hi : i < n) : ∃ u, w.cell? ⟨g, i, none⟩ = some u := by
  obtain ⟨F, hF, _⟩ := h
  exact ⟨_, hF.cell hi⟩
theorem RowN.frozen {w : World} {g : Nat} {e : TypeId} {n j : Nat} {f : Nat → Value} (h : RowN w g e n j f) (i : Nat) : w.frozen? ⟨g, i, none⟩ = false := by
  obtain ⟨F, hF, _⟩ := h
  exact hF.frozen i
theorem RowN.lt {w : World} {g : Nat} {e : TypeId} {n j : Nat} {f : Nat → Value} (h : RowN w g e n j f) : g < w.heap.size := by
  obtain ⟨F, hF, _⟩ := h
  exact hF.lt
theorem RowN.of_block {w w' : World} {g : Nat} {e : TypeId} {n j : Nat} {f : Nat → Value} (h : RowN w g e n j f) (hb : w'.heap[g]? = w.heap[g]?) : RowN w' g e n j f := by
  obtain ⟨F, hF, hc⟩ := h
  exact ⟨F, hF.of_block hb, hc⟩
theorem RowN.drewN {w : World} {g : Nat} {e : TypeId} {n j : Nat} {f : Nat → Value} (h : RowN w g e n j f) (m : Nat) : RowN (w.drewN m) g e n j f := h.of_block rfl
theorem RowN.below {w w' : World} {B g : Nat} {e : TypeId} {n j : Nat} {f : Nat → Value} (h : RowN w g e n j f) (hb : Below B w w') (hg : g < B) : RowN w' g e n j f := h.of_block (hb.block g hg)
theorem RowN.alloc {w : World} {g : Nat} {e : TypeId} {n j : Nat} {f : Nat → Value} (h : RowN w g e n j f) (o : Obj) : RowN (w.alloc o) g e n j f := h.of_block (Below.heap_alloc _ _ _ h.lt)
theorem RowN.setOther {w : World} {g : Nat} {e : TypeId} {n j : Nat} {f : Nat → Value} (h : RowN w g e n j f) {a : Addr} (ha : g ≠ a.block) (v : Value) : RowN (w.setCell a v) g e n j f := h.of_block (Below.heap_setCell _ _ _ _ ha)
theorem RowN.row {w : World} {g : Nat} {e : TypeId} {n j m : Nat} {f : Nat → Value} (h : RowN w g e n j f) (hm : m ≤ j) (hj : m ≤ n) : Row w (some ⟨g, 0, none⟩) m f := by
  obtain ⟨F, hF, hc⟩ := h
  intro i hi
  exact ⟨g, 0, rfl, hF.lt, by rw [Nat.zero_add, hF.cell (by omega), hc i (by omega)]⟩
theorem RowN.congr {w : World} {g : Nat} {e : TypeId} {n j : Nat} {f f' : Nat → Value} (h : RowN w g e n j f) (hf : ∀ i, i < j → f i = f' i) : RowN w g e n j f' := by
  obtain ⟨F, hF, hc⟩ := h
  exact ⟨F, hF, fun i hi => (hc i hi).trans (hf i hi)⟩
theorem RowN.less {w : World} {g : Nat} {e : TypeId} {n j j' : Nat} {f : Nat → Value} (h : RowN w g e n j f) (hj : j' ≤ j) : RowN w g e n j' f := by
  obtain ⟨F, hF, hc⟩ := h
  exact ⟨F, hF, fun i hi => hc i (by omega)⟩
theorem RowN.cellAt {w : World} {g : Nat} {e : TypeId} {n j : Nat} {f : Nat → Value} (h : RowN w g e n j f) {i : Nat} (hi : i < j) (hn : i < n) : w.cell? ⟨g, i, none⟩ = some (f i) := by
  obtain ⟨F, hF, hc⟩ := h
  rw [hF.cell hn, hc i hi]

/-- The same of patterns, three cells each. -/
def PatRow (w : World) (g : Nat) (e : TypeId) (n j : Nat) (ps : List Pat) : Prop :=
  ∃ F, w.rowIs g e (n * 3) F ∧ ∀ i, i < j → F (i * 3) = .string (ptx ps i) ∧ F (i * 3 + 1) = .bool (pfo ps i) ∧ F (i * 3 + 2) = .bool (pli ps i)
theorem PatRow.start (w : World) (z : Value) (e : TypeId) (n : Nat) (ps : List Pat) : PatRow (w.alloc (.cells (zeros z (n * 3)) e)) w.heap.size e n 0 ps := by
  obtain ⟨f, hf⟩ := zeros_row w z (n * 3) e
  exact ⟨f, hf, fun i h => by omega⟩
theorem PatRow.step {w : World} {g : Nat} {e : TypeId} {n j : Nat} {ps : List Pat} (h : PatRow w g e n j ps) :
    PatRow (((w.setCell ⟨g, j * 3, none⟩ (.string (ptx ps j))).setCell ⟨g, j * 3 + 1, none⟩ (.bool (pfo ps j))).setCell ⟨g, j * 3 + 2, none⟩ (.bool (pli ps j))) g e n (j + 1) ps := by
  obtain ⟨f, hf, hc⟩ := h
  refine ⟨_, ((hf.set (j * 3) _).set (j * 3 + 1) _).set (j * 3 + 2) _, fun i hi => ?_⟩
  by_cases ei : i = j
  · subst ei
    simp
  · have := hc i (by omega)
    simp only [this.1, this.2.1, this.2.2]
    refine ⟨?_, ?_, ?_⟩ <;> (rw [if_neg (by omega), if_neg (by omega), if_neg (by omega)])
theorem PatRow.pats {w : World} {g : Nat} {e : TypeId} {n : Nat} {ps : List Pat} (h : PatRow w g e n n ps) (hn : ps.length = n) : Pats w (some ⟨g, 0, none⟩) ps := by
  obtain ⟨f, hf, hc⟩ := h
  intro i hi
  refine ⟨g, 0, rfl, hf.lt, ?_, ?_, ?_⟩
  · rw [Nat.zero_add, hf.cell (by omega), (hc i (by omega)).1]
  · rw [Nat.zero_add, hf.cell (by omega), (hc i (by omega)).2.1]
  · rw [Nat.zero_add, hf.cell (by omega), (hc i (by omega)).2.2]
theorem PatRow.cell0 {w : World} {g : Nat} {e : TypeId} {n j : Nat} {ps : List Pat} (h : PatRow w g e n j ps) {i : Nat} (hi : i < n) :
    ∃ u v x, w.cell? ⟨g, i * 3, none⟩ = some u ∧ w.cell? ⟨g, i * 3 + 1, none⟩ = some v ∧ w.cell? ⟨g, i * 3 + 2, none⟩ = some x := by
  obtain ⟨f, hf, _⟩ := h
  exact ⟨_, _, _, hf.cell (by omega), hf.cell (by omega), hf.cell (by omega)⟩
theorem PatRow.frozen {w : World} {g : Nat} {e : TypeId} {n j : Nat} {ps : List Pat} (h : PatRow w g e n j ps) (i : Nat) : w.frozen? ⟨g, i, none⟩ = false := by
  obtain ⟨f, hf, _⟩ := h
  exact hf.frozen i
theorem PatRow.drewN {w : World} {g : Nat} {e : TypeId} {n j : Nat} {ps : List Pat} (h : PatRow w g e n j ps) (m : Nat) : PatRow (w.drewN m) g e n j ps := by
  obtain ⟨f, hf, hc⟩ := h
  exact ⟨f, rowIs_drewN hf m, hc⟩

theorem Try.info3 : (Try.prog.info? 3).map (fun i => (i.zero, i.size, i.bytes)) = some (some (.int .i64 0), 1, 8) := by kernel_rfl
theorem Try.info21 : (Try.prog.info? 21).map (fun i => (i.zero, i.size, i.bytes)) = some (some (.int .i32 0), 1, 4) := by kernel_rfl
theorem Try.info44 : (Try.prog.info? 44).map (fun i => (i.zero, i.size, i.bytes)) = some (some (.int .u32 0), 1, 4) := by kernel_rfl
theorem Try.info4 : (Try.prog.info? 4).map (fun i => (i.zero, i.size, i.bytes)) = some (some (.bool false), 1, 1) := by kernel_rfl
theorem Try.info9 : (Try.prog.info? 9).map (fun i => (i.zero, i.size, i.bytes)) = some (some (.string ByteArray.empty), 1, 16) := by kernel_rfl
theorem Try.info49 : (Try.prog.info? 49).map (fun i => (i.zero, i.size, i.bytes)) = some (some (.agg #[.string ByteArray.empty, .bool false, .bool false]), 3, 24) := by kernel_rfl
theorem Try.info75 : (Try.prog.info? 75).map (fun i => (i.zero, i.size, i.bytes)) = some (some (.agg #[.string ByteArray.empty, .bool false, .bool false]), 3, 24) := by kernel_rfl

/-- The call returns a slice of n elements of which p holds. -/
def SliceEnd (n : Nat) (p : World → Option Addr → Prop) (e : Ending) (w' : World) : Prop := ∃ a cap, e = .returned (.slice a n cap) ∧ p w' a

end Go.Proofs.Qxb6601200a
