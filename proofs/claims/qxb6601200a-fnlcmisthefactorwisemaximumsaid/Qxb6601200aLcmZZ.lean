import Derived.Test.Qxb6601200aLcmLcm
import Derived.Test.Qxb6601200aLcmMake
namespace Go.Proofs.Qxb6601200a
open Go.RowKit

set_option maxRecDepth 100000 in
set_option maxHeartbeats 1000000 in
theorem zzLcm_any (a b : Option Addr) (n m cap cap' : Nat) (xs ys : List (Int × Int)) (w : World) (hn : Hid (xs.length = n)) (hm : Hid (ys.length = m)) (h1 : n ≤ 65536) (h2 : m ≤ 65536)
    (hp : Pairs w a xs) (hq : Pairs w b ys) (ix : Hid (Incr xs)) (iy : Hid (Incr ys)) :
    Calls Try.prog 12 #[.slice a n cap, .slice b m cap'] w fun e w' => LcmEnd xs ys e w' ∧ Below w.heap.size w w' := by
  go_enter Try.func12, Try.ntmps12
  go_wp2_with fail
  refine (zzLoops_any a n cap xs _ hn (by omega) hp).mono ?_
  rintro e w1 ⟨⟨a1, c1, rfl, hp1⟩, hb1⟩
  have hq1 := hq.below hb1
  clear hp hq
  go_wp2_with fail
  refine (zzLoops_any b m cap' ys _ hm (by omega) hq1).mono ?_
  rintro e w2 ⟨⟨a2, c2, rfl, hq2⟩, hb2⟩
  have hp2 := hp1.below hb2
  have hb12 := hb1.trans (hb2.mono hb1.size)
  clear hp1 hq1 hb1 hb2
  go_wp2_with fail
  refine (lcm_any a1 a2 n m c1 c2 xs ys _ hn hm (by omega) (by omega) hp2 hq2 ix iy).mono ?_
  rintro e w3 ⟨⟨a3, n3, c3, L, mg, rfl, hL, hp3, hok⟩, hb3⟩
  have hb123 := hb12.trans (hb3.mono hb12.size)
  clear hp2 hq2 hb12 hb3
  have hn3 : n3 ≤ 131072 := by have := hok.1.len; have := hn.out; have := hm.out; omega
  have HL : Hid (L.length = n3) := hL
  have HO : Hid (LcmOK xs ys L mg) := hok
  clear hL hok
  have hmk := make_run 22 30 _ 2 16 Try.underlying22 Try.info30 n3 (by omega) (by omega)
  go_wp2
  go_loopw [9] (fun k wr => ∃ j : Nat, j ≤ n3 ∧ k = .int .i64 j ∧ Below w3.heap.size w3 wr ∧ PairRow wr w3.heap.size 30 n3 j L) (fun k _ => n3 - (intOf k).toNat)
  case atStart => exact ⟨0, by omega, rfl, (Below.refl _ _).alloc (Nat.le_refl _) _, PairRow.start _ _ _ _ _⟩
  case round =>
    obtain ⟨j, hjn, rfl, hb, hf⟩ := hrel
    by_cases hlt : j < n3
    · obtain ⟨b, off, rfl, hbl, d0, d1⟩ := hp3 j (by have := HL.out; omega)
      have c0' := (hb.cell hbl).trans d0
      have c1' := (hb.cell hbl).trans d1
      obtain ⟨u, v, e0, e1⟩ := hf.cell0 hlt
      have f0 := hf.frozen (j * 2)
      have f1 := hf.frozen (j * 2 + 1)
      clear hp3 d0 d1
      have hl : (j : Int) < (n3 : Int) := by omega
      go_wp2
      go_region
      go_wp2
      go_roundw
      case rel => exact ⟨j + 1, by omega, by go_num, ((hb.setCell (Nat.le_refl _) _).setCell (Nat.le_refl _) _).drew, hf.step.drewN 1⟩
      case measure => simp [intOf]; omega
    · have hl : ¬ (j : Int) < (n3 : Int) := by omega
      obtain rfl : j = n3 := by omega
      clear hp3
      go_wp2
      go_ret2
      exact ⟨⟨_, _, _, L, _, rfl, HL.out, hf.pairs HL.out, HO.out⟩, hb123.trans (hb.mono hb123.size)⟩
end Go.Proofs.Qxb6601200a
