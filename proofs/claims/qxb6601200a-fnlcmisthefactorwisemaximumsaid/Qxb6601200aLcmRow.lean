import Derived.Test.Qxb6601200aRows
import Derived.Test.Qxb6601200aLcmLaw
import Derived.ProofKit
import Derived.OpenShut
import Derived.ShutString
import Derived.ChangeOld
import Derived.Below
import Derived.Deep.Slices
namespace Go.Proofs.Qxb6601200a.fnLcm
open Go.ChangeShapes Go.WideShapes Go.ChangeAt Go.RowKit Go.Deep
set_option linter.unusedVariables false

theorem own : ownKnob Try.prog.godebug = none := by kernel_rfl
theorem laidOut : laidOutB Try.prog = true := by kernel_rfl
theorem cells3 : Try.prog.cellsOf 3 = 1 := by kernel_rfl
theorem cells30 : Try.prog.cellsOf 30 = 2 := by kernel_rfl

/-- A slice of pairs of numbers that came in. -/
theorem open_pairs {H : Type} {enc : TypeId × Value → H} {W : World} {a : Option Addr} {len cap : Nat} {d : DataW H} {p : List MemPlace}
    (h : DataW.Trod enc Try.prog W 0 (fun _ => true) true 22 (.slice a len cap) d p) : len ≤ maxLen ∧ ∃ xs, xs.length = len ∧ Pairs W a xs := by
  obtain ⟨fuel, hf⟩ := h
  rcases open_slice Try.underlying22 hf with ⟨hcs, _⟩ | ⟨x, l, c, m, n, D, Pl, hcs, _, hl, hm, hmm, _, hx⟩
  · simp [Value.cells] at hcs
    obtain ⟨rfl, rfl, rfl⟩ := hcs
    exact ⟨by omega, [], rfl, fun i hi => by simp at hi⟩
  · simp [Value.cells] at hcs
    obtain ⟨rfl, rfl, rfl⟩ := hcs
    simp only [if_true] at hmm
    refine ⟨by omega, ?_⟩
    have each : ∀ i, i < len → ∃ q : Int × Int, W.cell? (x.add (i * 2)) = some (.int .i64 q.1) ∧ W.cell? (x.add (i * 2 + 1)) = some (.int .i64 q.2) := by
      intro i hi
      obtain ⟨cs', h1, h2⟩ := hx i (by omega)
      rw [cells30] at h1
      obtain ⟨_, hlen, hcell⟩ := World.cells?_some h1
      obtain ⟨ys, k, hk, hxy, _, hyl, hg⟩ := DataW.trod_array Try.underlying30 h2
      have g0 := hg 0 (by omega)
      have g1 := hg 1 (by omega)
      rw [List.getElem?_eq_getElem (by omega)] at g0 g1
      obtain ⟨n0, e0, _, _⟩ := DataW.trod_int Try.underlying3 g0
      obtain ⟨n1, e1, _, _⟩ := DataW.trod_int Try.underlying3 g1
      rw [cells3] at e0 e1
      have c0 := hcell 0 (by omega)
      have c1 := hcell 1 (by omega)
      rw [add_add] at c0 c1
      refine ⟨(n0, n1), ?_, ?_⟩
      · match cs', hlen, e0 with
        | [v0, v1], _, e0 => simp at e0; subst e0; simpa using c0
      · match cs', hlen, e1 with
        | [v0, v1], _, e1 => simp at e1; subst e1; simpa using c1
    obtain ⟨q, hq⟩ := choose_lt each
    have hP : ∀ i, i < len → P1 ((List.range len).map q) i = (q i).1 ∧ P2 ((List.range len).map q) i = (q i).2 := fun i hi => by simp [P1, P2, hi]
    refine ⟨(List.range len).map q, by simp, fun i hi => ?_⟩
    have hi' : i < len := by simpa using hi
    obtain ⟨b, off, spot⟩ := x
    have hs : spot = none := by simpa [Addr.add] using World.cell?_spot (hq 0 (by omega)).1
    subst hs
    have c := hq i hi'
    rw [add_plain, add_plain] at c
    refine ⟨b, off, rfl, World.block_lt_of_cell? W _ c.1, ?_, ?_⟩
    · rw [(hP i hi').1]; exact c.1
    · rw [(hP i hi').2]; exact c.2

set_option maxRecDepth 100000 in
theorem lifted (os : Os) (started : os.Started) (H : Type) (enc : TypeId × Value → H) :
    ReturnsInHanded {} Try.checked os 3 .any (Rows.fnLcmIsTheFactorwiseMaximumSpec.pre6 enc Try.prog Try.f3 Rows.fnLcmIsTheFactorwiseMaximumRow.domain false) (Rows.fnLcmIsTheFactorwiseMaximumSpec.post enc Try.prog Try.f3 false true false false) := by
  refine returnsInHanded_of_change (C := Try.checked) own started (by kernel_rfl) Try.func3
    (ChangeSpec.witness6 (enc := enc) (C := Try.checked) false ⟨#[], #[.slice none 0 0, .slice none 0 0], []⟩ 8 (by kernel_rfl) (by kernel_rfl) (by kernel_rfl) (by kernel_rfl)) ?_
  intro W base args ds gs before hval0 hW hcnd _
  have hval : ∀ (j : Nat) t v, Try.f3.params[j]? = some t → args[j]? = some v → Value.okWide Try.prog W .any base t v := hval0
  have hW' := hW
  obtain ⟨p, q, hA0, hV, rfl, hfz, hnd⟩ := hW
  have hA : DataW.TrodAll enc Try.prog W 0 (fun _ => true) true Try.f3.params.toList args.toList ds p := hA0
  rw [Try.params3] at hA hval
  obtain ⟨v0, vs0, d0, ds0, p0, q0, hargs, rfl, rfl, h0, r0⟩ := trodAll_cons hA
  obtain ⟨v1, vs1, d1, ds1, p1, q1, rfl, rfl, rfl, h1, r1⟩ := trodAll_cons r0
  obtain ⟨rfl, rfl, rfl⟩ := trodAll_nil r1
  obtain rfl : args = #[v0, v1] := by cases args; simp_all
  obtain ⟨rfl, rfl⟩ := trodVars_none hV
  obtain ⟨a0, len0, cap0, rfl⟩ := okWide_slice Try.underlying22 (hval 0 22 v0 rfl rfl)
  obtain ⟨a1, len1, cap1, rfl⟩ := okWide_slice Try.underlying22 (hval 1 22 v1 rfl rfl)
  have lt0 : ∀ x ∈ p0, x.block < W.heap.size := by obtain ⟨m, hm⟩ := h0; exact DataW.trod_lt m _ _ _ hm
  have lt1 : ∀ x ∈ p1, x.block < W.heap.size := by obtain ⟨m, hm⟩ := h1; exact DataW.trod_lt m _ _ _ hm
  obtain ⟨m0, xs, hx, hpx⟩ := open_pairs h0
  obtain ⟨m1, ys, hy, hpy⟩ := open_pairs h1
  clear hA0 hval0
  refine (lcmLaw_walk a0 a1 len0 len1 cap0 cap1 xs ys W hx hy m0 m1 hpx hpy).mono fun e W' ⟨he, bel⟩ => ?_
  subst he
  exact ⟨_, rfl, _, _, _, [], _, [], hW', trodAll_mk1 (shut_bool Try.underlying4 _), (trodAll_cons_mk (Below.trod laidOut (by kernel_rfl) (of_decide_eq_true (by kernel_rfl)) h0 bel lt0) (trodAll_cons_mk (Below.trod laidOut (by kernel_rfl) (of_decide_eq_true (by kernel_rfl)) h1 bel lt1) trodAll_mk0)), rfl, bel.frame _, fun h => by cases h⟩

theorem over : Rows.fnLcmIsTheFactorwiseMaximumRow.holds Try.pinned (OpenSpec.ofChange Rows.fnLcmIsTheFactorwiseMaximumSpec) :=
  OpenClaim.holds_of_wide 3 Try.f3 rfl rfl rfl rfl rfl rfl rfl ⟨rfl, rfl, rfl, rfl, rfl⟩ rfl rfl rfl rfl rfl (by kernel_rfl) Try.func3 (by kernel_rfl)
    (of_decide_eq_true (by kernel_rfl)) (by unfold Func.isWrapper; first | (rw [if_pos (by decide +kernel)]; kernel_rfl) | (rw [if_neg (by decide +kernel)]; exact ⟨rfl, rfl⟩))
    (fun os started H enc _ => lifted os started H enc)

end Go.Proofs.Qxb6601200a.fnLcm

namespace Go.Proofs.Qxb6601200a
/-- THE STATEMENT -/
theorem fnLcmIsTheFactorwiseMaximum_proved : Rows.FnLcmIsTheFactorwiseMaximumSaid := fnLcm.over
#print axioms fnLcmIsTheFactorwiseMaximum_proved
end Go.Proofs.Qxb6601200a
