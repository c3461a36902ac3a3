import Derived.Test.Qxb6601200aPRead
namespace Go.Proofs.Qxb6601200a
open Go.RowKit

set_option maxHeartbeats 400000 in
theorem clonePatterns_any (a : Option Addr) (n cap : Nat) (ps : List Pat) (w : World) (hn : Hid (ps.length = n)) (hm : n ≤ 1048576) (hp : Pats w a ps) :
    Calls Try.prog 18 #[.slice a n cap] w fun e w' => SliceEnd n (fun w' a => Pats w' a ps) e w' ∧ Below w.heap.size w w' := by
  have hmk := make_run 32 49 _ 3 24 Try.underlying32 Try.info49 n (by omega) (by omega)
  have hnil := fun w' => Lib.run_eql_slice_nil (P := Try.prog) w' 32 49 a n cap 0 0 Try.underlying32
  cases ha : a.isNone with
  | true =>
    have HX : Hid (n = 0) := hn.out.symm.trans (hp.none ha)
    go_enter Try.func18, Try.ntmps18
    go_wp2
    go_ret
    refine ⟨⟨none, 0, by rw [HX.out]; rfl, fun i hi => ?_⟩, Below.refl _ _⟩
    have := hn.out; have := HX.out; omega
  | false =>
    go_enter Try.func18, Try.ntmps18
    go_wp2
    go_loopw [4] (fun k wr => ∃ j : Nat, j ≤ n ∧ k = .int .i64 j ∧ Below w.heap.size w wr ∧ PatRow wr w.heap.size 49 n j ps) (fun k _ => n - (intOf k).toNat)
    case atStart => exact ⟨0, by omega, rfl, (Below.refl _ _).alloc (Nat.le_refl _) _, PatRow.start _ _ _ _ _⟩
    case round =>
      obtain ⟨j, hjn, rfl, hb, hf⟩ := hrel
      by_cases hlt : j < n
      · obtain ⟨b, off, rfl, hbl, c0, c1, c2⟩ := hp j (by have := hn.out; omega)
        have c0' := (hb.cell hbl).trans c0
        have c1' := (hb.cell hbl).trans c1
        have c2' := (hb.cell hbl).trans c2
        obtain ⟨u, v, x, d0, d1, d2⟩ := hf.cell0 hlt
        have f0 := hf.frozen (j * 3)
        have f1 := hf.frozen (j * 3 + 1)
        have f2 := hf.frozen (j * 3 + 2)
        clear hp c0 c1 c2
        have hl : (j : Int) < (n : Int) := by omega
        go_wp2
        go_roundw
        case rel => exact ⟨j + 1, by omega, by go_num, ((hb.setCell (Nat.le_refl _) _).setCell (Nat.le_refl _) _).setCell (Nat.le_refl _) _, hf.step⟩
        case measure => simp [intOf]; omega
      · have hl : ¬ (j : Int) < (n : Int) := by omega
        obtain rfl : j = n := by omega
        clear hp
        go_wp2
        go_ret
        exact ⟨⟨_, _, rfl, hf.pats hn.out⟩, hb⟩

/-- A copy of a slice of numbers: nil, or a row of its own. -/
def CloneEnd (B n : Nat) (zs : List Int) (e : Ending) (w' : World) : Prop :=
  (n = 0 ∧ e = .returned (.slice none 0 0)) ∨ ∃ g, B ≤ g ∧ e = .returned (.slice (some ⟨g, 0, none⟩) n n) ∧ RowN w' g 3 n n (fun i => .int .i64 (iat zs i))
theorem CloneEnd.slice {B n : Nat} {zs : List Int} {e : Ending} {w' : World} (h : CloneEnd B n zs e w') (hn : zs.length = n) : ∃ a, e = .returned (.slice a n n) ∧ Ints .i64 w' a zs := by
  rcases h with ⟨h0, he⟩ | ⟨g, _, he, hr⟩
  · subst h0
    exact ⟨none, he, fun i hi => by omega⟩
  · exact ⟨_, he, hr.row (by omega) (by omega)⟩

set_option maxHeartbeats 400000 in
theorem cloneInts_any (a : Option Addr) (n cap : Nat) (zs : List Int) (w : World) (hn : Hid (zs.length = n)) (hm : n ≤ 1099511627776) (hp : Ints .i64 w a zs) :
    Calls Try.prog 19 #[.slice a n cap] w fun e w' => CloneEnd w.heap.size n zs e w' ∧ Below w.heap.size w w' := by
  have hmk := make_run 33 3 _ 1 8 Try.underlying33 Try.info3 n (by omega) (by omega)
  simp only [Nat.mul_one] at hmk
  have hnil := fun w' => Lib.run_eql_slice_nil (P := Try.prog) w' 33 3 a n cap 0 0 Try.underlying33
  cases ha : a.isNone with
  | true =>
    have HX : Hid (n = 0) := hn.out.symm.trans (hp.none ha)
    go_enter Try.func19, Try.ntmps19
    go_wp2
    go_ret
    exact ⟨.inl ⟨HX.out, rfl⟩, Below.refl _ _⟩
  | false =>
    go_enter Try.func19, Try.ntmps19
    go_wp2
    go_loopw [4] (fun k wr => ∃ j : Nat, j ≤ n ∧ k = .int .i64 j ∧ Below w.heap.size w wr ∧ RowN wr w.heap.size 3 n j (fun i => .int .i64 (iat zs i))) (fun k _ => n - (intOf k).toNat)
    case atStart => exact ⟨0, by omega, rfl, (Below.refl _ _).alloc (Nat.le_refl _) _, RowN.start _ _ _ _ _⟩
    case round =>
      obtain ⟨j, hjn, rfl, hb, hf⟩ := hrel
      by_cases hlt : j < n
      · obtain ⟨b, off, rfl, hbl, c0⟩ := hp j (by have := hn.out; omega)
        have c0' := (hb.cell hbl).trans c0
        obtain ⟨u, d0⟩ := hf.cell hlt
        have f0 := hf.frozen j
        clear hp c0
        have hl : (j : Int) < (n : Int) := by omega
        go_wp2
        go_roundw
        case rel => exact ⟨j + 1, by omega, by go_num, hb.setCell (Nat.le_refl _) _, hf.step⟩
        case measure => simp [intOf]; omega
      · have hl : ¬ (j : Int) < (n : Int) := by omega
        obtain rfl : j = n := by omega
        clear hp
        go_wp2
        go_ret
        exact ⟨.inr ⟨_, Nat.le_refl _, rfl, hf⟩, hb⟩

def SplitEnd (n : Nat) (ps : List Pat) (e : Ending) (w' : World) : Prop :=
  ∃ a b c, e = .returned (.tuple #[.slice a n n, .slice b n n, .slice c n n]) ∧ Row w' a n (fun i => .string (ptx ps i)) ∧ Row w' b n (fun i => .bool (pfo ps i)) ∧ Row w' c n (fun i => .bool (pli ps i))

set_option maxHeartbeats 1000000 in
theorem split_any (a : Option Addr) (n cap : Nat) (ps : List Pat) (w : World) (hn : Hid (ps.length = n)) (hm : n ≤ 1048576) (hp : Pats w a ps) :
    Calls Try.prog 20 #[.slice a n cap] w fun e w' => SplitEnd n ps e w' ∧ Below w.heap.size w w' := by
  have hm1 := make_run 38 9 _ 1 16 Try.underlying38 Try.info9 n (by omega) (by omega)
  have hm2 := make_run 39 4 _ 1 1 Try.underlying39 Try.info4 n (by omega) (by omega)
  simp only [Nat.mul_one] at hm1 hm2
  go_enter Try.func20, Try.ntmps20
  go_wp2
  go_loopw [8] (fun k wr => ∃ j : Nat, j ≤ n ∧ k = .int .i64 j ∧ Below w.heap.size w wr ∧ RowN wr w.heap.size 9 n j (fun i => .string (ptx ps i)) ∧ RowN wr (w.heap.size + 1) 4 n j (fun i => .bool (pfo ps i)) ∧ RowN wr (w.heap.size + 1 + 1) 4 n j (fun i => .bool (pli ps i))) (fun k _ => n - (intOf k).toNat)
  case atStart =>
    refine ⟨0, by omega, rfl, (((Below.refl _ _).alloc (Nat.le_refl _) _).alloc (by simp) _).alloc (by simp; omega) _, ((RowN.start _ _ _ _ _).alloc _).alloc _, ?_, ?_⟩
    · have := (RowN.start (w.alloc (.cells (zeros (.string ByteArray.empty) n) 9)) (.bool false) 4 n (fun i => .bool (pfo ps i))).alloc (.cells (zeros (.bool false) n) 4)
      simpa using this
    · have := RowN.start ((w.alloc (.cells (zeros (.string ByteArray.empty) n) 9)).alloc (.cells (zeros (.bool false) n) 4)) (.bool false) 4 n (fun i => .bool (pli ps i))
      simpa using this
  case round =>
    obtain ⟨j, hjn, rfl, hb, hf, hg, hh⟩ := hrel
    by_cases hlt : j < n
    · obtain ⟨b, off, rfl, hbl, c0, c1, c2⟩ := hp j (by have := hn.out; omega)
      have c0' := (hb.cell hbl).trans c0
      have c1' := (hb.cell hbl).trans c1
      have c2' := (hb.cell hbl).trans c2
      obtain ⟨u0, d0⟩ := hf.cell hlt
      obtain ⟨u1, d1⟩ := hg.cell hlt
      obtain ⟨u2, d2⟩ := hh.cell hlt
      have f0 := hf.frozen j
      have f1 := hg.frozen j
      have f2 := hh.frozen j
      clear hp c0 c1 c2
      have hl : (j : Int) < (n : Int) := by omega
      go_wp2
      go_roundw
      case rel =>
        refine ⟨j + 1, by omega, by go_num, ((hb.setCell (Nat.le_refl _) _).setCell (by simp) _).setCell (by simp; omega) _, ?_, ?_, ?_⟩
        · exact (hf.step.setOther (by simp) _).setOther (by simp; omega) _
        · exact ((hg.setOther (by simp) _).step).setOther (by simp) _
        · exact ((hh.setOther (by simp; omega) _).setOther (by simp) _).step
      case measure => simp [intOf]; omega
    · have hl : ¬ (j : Int) < (n : Int) := by omega
      obtain rfl : j = n := by omega
      clear hp
      go_wp2
      go_ret3
      exact ⟨⟨_, _, _, rfl, hf.row (by omega) (by omega), hg.row (by omega) (by omega), hh.row (by omega) (by omega)⟩, hb⟩

set_option maxHeartbeats 1000000 in
theorem zzPatterns_any (a b c : Option Addr) (n capa capb capc : Nat) (ps : List Pat) (w : World) (hn : Hid (ps.length = n)) (hm : n ≤ 1048576)
    (hp : Row w a n (fun i => .string (ptx ps i))) (hq : Row w b n (fun i => .bool (pfo ps i))) (hr : Row w c n (fun i => .bool (pli ps i))) :
    Calls Try.prog 38 #[.slice a n capa, .slice b n capb, .slice c n capc] w fun e w' => SliceEnd n (fun w' a => Pats w' a ps) e w' ∧ Below w.heap.size w w' := by
  have hmk := make_run 68 75 _ 3 24 Try.underlying68 Try.info75 n (by omega) (by omega)
  have hnil := fun w' => Lib.run_eql_slice_nil (P := Try.prog) w' 38 9 a n capa 0 0 Try.underlying38
  cases ha : a.isNone with
  | true =>
    have HX : Hid (n = 0) := hp.none ha
    go_enter Try.func38, Try.ntmps38
    go_wp2
    go_ret
    refine ⟨⟨none, 0, by rw [HX.out]; rfl, fun i hi => ?_⟩, Below.refl _ _⟩
    have := hn.out; have := HX.out; omega
  | false =>
    go_enter Try.func38, Try.ntmps38
    go_wp2
    go_loopw [8] (fun k wr => ∃ j : Nat, j ≤ n ∧ k = .int .i64 j ∧ Below w.heap.size w wr ∧ PatRow wr w.heap.size 75 n j ps) (fun k _ => n - (intOf k).toNat)
    case atStart => exact ⟨0, by omega, rfl, (Below.refl _ _).alloc (Nat.le_refl _) _, PatRow.start _ _ _ _ _⟩
    case round =>
      obtain ⟨j, hjn, rfl, hb, hf⟩ := hrel
      by_cases hlt : j < n
      · obtain ⟨b0, off0, rfl, hbl0, c0⟩ := hp j hlt
        obtain ⟨b1, off1, rfl, hbl1, c1⟩ := hq j hlt
        obtain ⟨b2, off2, rfl, hbl2, c2⟩ := hr j hlt
        have c0' := (hb.cell hbl0).trans c0
        have c1' := (hb.cell hbl1).trans c1
        have c2' := (hb.cell hbl2).trans c2
        obtain ⟨u, v, x, d0, d1, d2⟩ := hf.cell0 hlt
        have f0 := hf.frozen (j * 3)
        have f1 := hf.frozen (j * 3 + 1)
        have f2 := hf.frozen (j * 3 + 2)
        clear hp hq hr c0 c1 c2
        have hl : (j : Int) < (n : Int) := by omega
        go_wp2
        go_region
        go_wp2
        go_roundw
        case rel => exact ⟨j + 1, by omega, by go_num, (((hb.setCell (Nat.le_refl _) _).setCell (Nat.le_refl _) _).setCell (Nat.le_refl _) _).drew, hf.step.drewN 1⟩
        case measure => simp [intOf]; omega
      · have hl : ¬ (j : Int) < (n : Int) := by omega
        obtain rfl : j = n := by omega
        clear hp hq hr
        go_wp2
        go_ret
        exact ⟨⟨_, _, rfl, hf.pats hn.out⟩, hb⟩
end Go.Proofs.Qxb6601200a
