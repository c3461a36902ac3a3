import Derived.Test.Qxb6601219aFdPlain
import Derived.Deep.OwnRows
import Derived.Lib.SliceRun
import Derived.Laws.BytesArg
set_option linter.unusedSimpArgs false
set_option linter.unusedVariables false
namespace Go.Proofs.Qxb6601219a
open Go.RowKit

/-- What 'make' lays. -/
def zeros (z : Value) (k : Nat) : Array Value := madeCells z.cells k
theorem make_run (t e : TypeId) (z : Value) (size bytes : Nat) (ht : Try.prog.underlying t = some (.slice e)) (hinfo : (Try.prog.info? e).map (fun i => (i.zero, i.size, i.bytes)) = some (some z, size, bytes))
    (n : Nat) (hb : bytes * n ≤ 281474976710656) (hn : n ≤ 9223372036854775807) (w : World) :
    (Instr.makeSlice t (.int .i64 (n : Int)) (.int .i64 (n : Int))).run Try.prog w = .ok (.slice (some ⟨w.heap.size, 0, none⟩) n n) (w.alloc (.cells (zeros z (n * size)) e)) := by
  obtain ⟨i, hi, hz, hs, hb'⟩ := info_parts hinfo
  have hb2 : (i.bytes : Int) * (n : Int) ≤ 281474976710656 := by
    rw [hb', ← Int.natCast_mul]; omega
  have hr := run_make (P := Try.prog) w t e i z ht hi hz .i64 .i64 n n (by omega) (Int.le_refl _) hb2 (by omega)
  simp only [Int.toNat_natCast, hs] at hr
  exact hr
theorem zeros_row (w : World) (z : Value) (k : Nat) (e : TypeId) : ∃ f, (w.alloc (.cells (zeros z k) e)).rowIs w.heap.size e k f := by
  have hs : (zeros z k).size = k := size_madeCells _ _
  have h := World.rowIs_alloc w (zeros z k) e (fun i => ((zeros z k)[i]?).getD z) (fun i hi => by rw [Array.getElem?_eq_getElem hi]; rfl)
  rw [hs] at h
  exact ⟨_, h⟩

/-- Block g is a row of n cells, the first j of which are f 0, f 1 .. -/
def RowN (w : World) (g : Nat) (e : TypeId) (n j : Nat) (f : Nat → Value) : Prop := ∃ F, w.rowIs g e n F ∧ ∀ i, i < j → F i = f i
theorem RowN.start (w : World) (z : Value) (e : TypeId) (n : Nat) (f : Nat → Value) : RowN (w.alloc (.cells (zeros z n) e)) w.heap.size e n 0 f := by
  obtain ⟨F, hF⟩ := zeros_row w z n e
  exact ⟨F, hF, fun i h => by omega⟩
theorem RowN.step {w : World} {g : Nat} {e : TypeId} {n j : Nat} {f : Nat → Value} (h : RowN w g e n j f) : RowN (w.setCell ⟨g, j, none⟩ (f j)) g e n (j + 1) f := by
  obtain ⟨F, hF, hc⟩ := h
  refine ⟨_, hF.set j _, fun i hi => ?_⟩
  by_cases ei : i = j
  · subst ei; simp
  · simp only [if_neg ei]; exact hc i (by omega)
theorem RowN.cell {w : World} {g : Nat} {e : TypeId} {n j : Nat} {f : Nat → Value} (h : RowN w g e n j f) {i : Nat} (hi : i < n) : ∃ u, w.cell? ⟨g, i, none⟩ = some u := by
  obtain ⟨F, hF, _⟩ := h
  exact ⟨_, hF.cell hi⟩
theorem RowN.frozen {w : World} {g : Nat} {e : TypeId} {n j : Nat} {f : Nat → Value} (h : RowN w g e n j f) (i : Nat) : w.frozen? ⟨g, i, none⟩ = false := by
  obtain ⟨F, hF, _⟩ := h
  exact hF.frozen i
theorem RowN.lt {w : World} {g : Nat} {e : TypeId} {n j : Nat} {f : Nat → Value} (h : RowN w g e n j f) : g < w.heap.size := by
  obtain ⟨F, hF, _⟩ := h
  exact hF.lt
theorem RowN.cellAt {w : World} {g : Nat} {e : TypeId} {n j : Nat} {f : Nat → Value} (h : RowN w g e n j f) {i : Nat} (hi : i < j) (hn : i < n) : w.cell? ⟨g, i, none⟩ = some (f i) := by
  obtain ⟨F, hF, hc⟩ := h
  rw [hF.cell hn, hc i hi]

theorem Try.info5 : (Try.prog.info? 5).map (fun i => (i.zero, i.size, i.bytes)) = some (some (.int .u8 0), 1, 1) := by kernel_rfl

theorem zs_nums : ∀ k, strOfNums (List.replicate k 48) = zs k
  | 0 => rfl
  | k + 1 => by
    rw [zs, ← zs_nums k]
    apply ByteArray.ext
    simp [strOfNums, ByteArray.data_append, List.replicate_succ]
theorem conv_row {w : World} {g k : Nat} (h : RowN w g 5 k k (fun _ => .int .u8 48)) : (convert 50 9 (.slice (some ⟨g, 0, none⟩) k k)).run Try.prog w = .ok (.string (zs k)) w := by
  have := run_convert_bytes_arg (P := Try.prog) w 50 5 Try.underlying50 Try.underlying5 g 0 k k (List.replicate k 48) (by simp) (fun i hi => by
    rw [Nat.zero_add, h.cellAt hi hi]
    simp [List.getD, List.getElem?_replicate, hi]) 9 Try.underlying9
  rw [this, zs_nums]

set_option maxHeartbeats 4000000 in
theorem zeros_any (k : Nat) (hk : k ≤ 65536) (w : World) : Calls Try.prog 9 #[.int .i64 k] w fun e w' => Says (zs k) e ∧ Grown w w' := by
  have k1 := make_run 50 5 _ 1 1 Try.underlying50 Try.info5 k (by omega) (by omega)
  simp only [Nat.mul_one] at k1
  go_enter Try.func9, Try.ntmps9
  go_wp2
  go_loopw [4] (fun i wr => ∃ j : Nat, j ≤ k ∧ i = .int .i64 j ∧ Grown w wr ∧ RowN wr w.heap.size 5 k j (fun _ => .int .u8 48)) (fun i _ => k - (intOf i).toNat)
  case atStart => exact ⟨0, by omega, rfl, (Grown.refl _).alloc _ _, RowN.start _ _ _ _ _⟩
  case round =>
    obtain ⟨j, hj, rfl, hg, hr⟩ := hrel
    by_cases hlt : j < k
    · obtain ⟨u, hu⟩ := hr.cell hlt
      have hf := hr.frozen j
      have hl : (j : Int) < (k : Int) := by omega
      have hlt2 := hr.lt
      go_wp2
      go_roundw
      case rel => exact ⟨j + 1, by omega, by go_num, hg.setCell (by simp) _, hr.step⟩
      case measure => simp [intOf]; omega
    · obtain rfl : j = k := by omega
      have hcv := conv_row hr
      go_wp2
      go_ret
      exact ⟨rfl, hg⟩

theorem grown_trans {a b c : World} (h : Grown a b) (g : Grown b c) : Grown a c :=
  ⟨World.keptBut_trans h.1 g.1, fun x => (g.2.1 x).trans (h.2.1 x), Nat.le_trans h.2.2 g.2.2⟩

theorem heap_alloc_new (w : World) (o : Obj) : (w.alloc o).heap[w.heap.size]? = some o := by
  show (w.heap.push o)[w.heap.size]? = some o
  simp
theorem conv_one (w : World) (x : Int) : (convert 50 9 (.slice (some ⟨w.heap.size, 0, none⟩) 1 1)).run Try.prog (w.alloc (.cells #[.int .u8 x] 5)) = .ok (.string (strOfNums [x])) (w.alloc (.cells #[.int .u8 x] 5)) :=
  run_convert_bytes_arg (P := Try.prog) _ 50 5 Try.underlying50 Try.underlying5 w.heap.size 0 1 1 [x] rfl (fun i hi => by
    obtain rfl : i = 0 := by omega
    unfold World.cell?; rw [heap_alloc_new]; simp) 9 Try.underlying9
theorem conv_two (w : World) (x y : Int) : (convert 50 9 (.slice (some ⟨w.heap.size, 0, none⟩) 2 2)).run Try.prog (w.alloc (.cells #[.int .u8 x, .int .u8 y] 5)) = .ok (.string (strOfNums [x, y])) (w.alloc (.cells #[.int .u8 x, .int .u8 y] 5)) :=
  run_convert_bytes_arg (P := Try.prog) _ 50 5 Try.underlying50 Try.underlying5 w.heap.size 0 2 2 [x, y] rfl (fun i hi => by
    rcases (show i = 0 ∨ i = 1 by omega) with rfl | rfl
    · unfold World.cell?; rw [heap_alloc_new]; simp
    · unfold World.cell?; rw [heap_alloc_new]; simp) 9 Try.underlying9

theorem enc_one {m : Int} (h0 : 0 ≤ m) (h1 : m < 128) : Utf8.encode m = strOfNums [m] := by
  have hv : Utf8.valid m = true := by simp [Utf8.valid]; omega
  unfold Utf8.encode
  simp only [hv, if_true]
  rw [if_pos (by omega)]
  rfl
theorem enc_two {m : Int} (h0 : 128 ≤ m) (h1 : m ≤ 255) : Utf8.encode m = strOfNums [192 + m / 64, 128 + m % 64] := by
  have hv : Utf8.valid m = true := by simp [Utf8.valid]; omega
  unfold Utf8.encode
  simp only [hv, if_true]
  rw [if_neg (by omega), if_pos (by omega)]
  have e1 : (192 + m / 64).toNat = 192 + m.toNat / 64 := by omega
  have e2 : (128 + m % 64).toNat = 128 + m.toNat % 64 := by omega
  simp only [strOfNums, List.map_cons, List.map_nil, e1, e2]
set_option maxHeartbeats 4000000 in
theorem mark_any (m : Int) (h0 : 0 ≤ m) (h1 : m ≤ 255) (w : World) : Calls Try.prog 11 #[.int .u8 m] w fun e w' => Says (Utf8.encode m) e ∧ Grown w w' := by
  have c1 := conv_one
  have c2 := conv_two
  by_cases hm : m < 128
  · go_enter Try.func11, Try.ntmps11
    go_wp2
    go_ret
    exact ⟨by rw [enc_one h0 hm]; rfl, (Grown.refl _).alloc _ _⟩
  · have hm' : 128 ≤ m := by omega
    clear hm
    go_enter Try.func11, Try.ntmps11
    go_wp2
    go_ret
    exact ⟨by rw [enc_two hm' h1]; rfl, (Grown.refl _).alloc _ _⟩

/-- The case table's text. -/
theorem fd_table_long (neg : Bool) {d : ByteArray} {p : Nat} (m : Int) (h : p < d.size) : fd neg d p m = ((sgn neg ++ d.extract 0 (d.size - p)) ++ Utf8.encode m) ++ d.extract (d.size - p) d.size := fd_long_eq neg m h
theorem fd_table_short (neg : Bool) {d : ByteArray} {p : Nat} (m : Int) (h : d.size ≤ p) : fd neg d p m = ((sgn neg ++ (⟨#[48]⟩ : ByteArray)) ++ Utf8.encode m) ++ (zs (p - d.size) ++ d) := by
  have hp : pad d p = (⟨#[48]⟩ : ByteArray) ++ (zs (p - d.size) ++ d) := by
    unfold pad; rw [show p + 1 - d.size = (p - d.size) + 1 from by omega, zs, ByteArray.append_assoc]
  have h1 : (⟨#[48]⟩ : ByteArray).size = 1 := rfl
  have hs : (zs (p - d.size) ++ d).size = p := by rw [ByteArray.size_append, zs_size]; omega
  unfold fd
  rw [hp, ByteArray.size_append, h1, hs, show 1 + p - p = 1 from by omega, ByteArray.extract_append_eq_left h1.symm, ByteArray.extract_append_eq_right h1.symm (by rw [h1, hs])]
end Go.Proofs.Qxb6601219a
