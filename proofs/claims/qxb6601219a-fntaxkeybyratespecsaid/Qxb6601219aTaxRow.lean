import Derived.Test.Qxb6601219aRows
import Derived.Test.Qxb6601219aTaxLaw
import Derived.ProofKit
import Derived.OpenShut
import Derived.ShutString
import Derived.ChangeOld
import Derived.Below
import Derived.Deep.Slices
set_option linter.unusedSimpArgs false
set_option linter.unusedVariables false
namespace Go.Proofs.Qxb6601219a.fnTax
open Go.ChangeShapes Go.WideShapes Go.ChangeAt Go.RowKit Go.Deep
open Go.ChangeMaps (open_string shut_string)

theorem own : ownKnob Try.prog.godebug = none := by kernel_rfl
theorem laidOut : laidOutB Try.prog = true := by kernel_rfl
theorem cells2 : Try.prog.cellsOf 2 = 1 := by kernel_rfl
theorem cells9 : Try.prog.cellsOf 9 = 1 := by kernel_rfl
theorem cells38 : Try.prog.cellsOf 38 = 2 := by kernel_rfl

/-- A slice of rows that came in. -/
theorem open_rows {H : Type} {enc : TypeId × Value → H} {W : World} {a : Option Addr} {len cap : Nat} {d : DataW H} {p : List MemPlace}
    (h : DataW.Trod enc Try.prog W 0 (fun _ => true) true 27 (.slice a len cap) d p) : ∃ rs, rs.length = len ∧ KRows W a rs := by
  obtain ⟨fuel, hf⟩ := h
  rcases open_slice Try.underlying27 hf with ⟨hcs, _⟩ | ⟨x, l, c, m, n, D, Pl, hcs, _, hl, hm, hmm, _, hx⟩
  · simp [Value.cells] at hcs
    obtain ⟨rfl, rfl, rfl⟩ := hcs
    exact ⟨[], rfl, fun i hi => by simp at hi⟩
  · simp [Value.cells] at hcs
    obtain ⟨rfl, rfl, rfl⟩ := hcs
    simp only [if_true] at hmm
    have each : ∀ i, i < len → ∃ q : Int × ByteArray, W.cell? (x.add (i * 2)) = some (.int .i64 q.1) ∧ W.cell? (x.add (i * 2 + 1)) = some (.string q.2) := by
      intro i hi
      obtain ⟨cs', h1, h2⟩ := hx i (by omega)
      rw [cells38] at h1
      obtain ⟨_, hlen, hcell⟩ := World.cells?_some h1
      obtain ⟨ys, k, hk, hxy, _, hyl, hg⟩ := DataW.trod_struct Try.underlying38 h2
      have hyl2 : ys.length = 2 := by rw [hyl]; rfl
      have g0 := hg 0 _ rfl
      have g1 := hg 1 _ rfl
      rw [List.getElem?_eq_getElem (by omega)] at g0 g1
      obtain ⟨n0, e0, _, _⟩ := DataW.trod_int Try.underlying2 g0
      obtain ⟨s1, e1, _, _⟩ := DataW.trod_string Try.underlying9 g1
      replace e0 : (cs'.drop 0).take 1 = [.int .i64 n0] := by rw [← cells2]; exact e0
      replace e1 : (cs'.drop 1).take 1 = [.string s1] := by rw [← cells9]; exact e1
      have c0 := hcell 0 (by omega)
      have c1 := hcell 1 (by omega)
      rw [add_add] at c0 c1
      refine ⟨(n0, s1), ?_, ?_⟩
      · match cs', hlen, e0 with
        | [v0, v1], _, e0 => simp at e0; subst e0; simpa using c0
      · match cs', hlen, e1 with
        | [v0, v1], _, e1 => simp at e1; subst e1; simpa using c1
    obtain ⟨q, hq⟩ : ∃ q : Nat → Int × ByteArray, ∀ i, i < len → W.cell? (x.add (i * 2)) = some (.int .i64 (q i).1) ∧ W.cell? (x.add (i * 2 + 1)) = some (.string (q i).2) := by
      classical
      refine ⟨fun i => if hi : i < len then Classical.choose (each i hi) else (0, ByteArray.empty), fun i hi => ?_⟩
      simp only [dif_pos hi]
      exact Classical.choose_spec (each i hi)
    have hP : ∀ i, i < len → kr ((List.range len).map q) i = (q i).1 ∧ ka ((List.range len).map q) i = (q i).2 := fun i hi => by simp [kr, ka, hi]
    refine ⟨(List.range len).map q, by simp, fun i hi => ?_⟩
    have hi' : i < len := by simpa using hi
    obtain ⟨b, off, spot⟩ := x
    have hs : spot = none := by simpa [Addr.add] using World.cell?_spot (hq 0 (by omega)).1
    subst hs
    have c := hq i hi'
    rw [add_plain, add_plain] at c
    refine ⟨b, off, rfl, World.block_lt_of_cell? W _ c.1, ?_, ?_⟩
    · rw [(hP i hi').1]; exact c.1
    · rw [(hP i hi').2]; exact c.2

set_option maxRecDepth 100000 in
theorem lifted (os : Os) (started : os.Started) (H : Type) (enc : TypeId × Value → H) :
    ReturnsInHanded {} Try.checked os 5 .any (Rows.fnTaxKeyByRateSpecSpec.pre6 enc Try.prog Try.f5 Rows.fnTaxKeyByRateSpecRow.domain false) (Rows.fnTaxKeyByRateSpecSpec.post enc Try.prog Try.f5 false true false false) := by
  refine returnsInHanded_of_change (C := Try.checked) own started (by kernel_rfl) Try.func5
    (ChangeSpec.witness6 (enc := enc) (C := Try.checked) false ⟨#[], #[.slice none 0 0, .int .i64 0, .string ByteArray.empty], []⟩ 8 (by kernel_rfl) (by kernel_rfl) (by kernel_rfl) (by kernel_rfl)) ?_
  intro W base args ds gs before hval0 hW hcnd _
  have hval : ∀ (j : Nat) t v, Try.f5.params[j]? = some t → args[j]? = some v → Value.okWide Try.prog W .any base t v := hval0
  have hW' := hW
  obtain ⟨p, q, hA0, hV, rfl, hfz, hnd⟩ := hW
  have hA : DataW.TrodAll enc Try.prog W 0 (fun _ => true) true Try.f5.params.toList args.toList ds p := hA0
  rw [Try.params5] at hA hval
  obtain ⟨v0, vs0, d0, ds0, p0, q0, hargs, rfl, rfl, h0, r0⟩ := trodAll_cons hA
  obtain ⟨v1, vs1, d1, ds1, p1, q1, rfl, rfl, rfl, h1, r1⟩ := trodAll_cons r0
  obtain ⟨v2, vs2, d2, ds2, p2, q2, rfl, rfl, rfl, h2, r2⟩ := trodAll_cons r1
  obtain ⟨rfl, rfl, rfl⟩ := trodAll_nil r2
  obtain rfl : args = #[v0, v1, v2] := by cases args; simp_all
  obtain ⟨rfl, rfl⟩ := trodVars_none hV
  obtain ⟨a0, len0, cap0, rfl⟩ := okWide_slice Try.underlying27 (hval 0 27 v0 rfl rfl)
  have lt0 : ∀ x ∈ p0, x.block < W.heap.size := by obtain ⟨m, hm⟩ := h0; exact DataW.trod_lt m _ _ _ hm
  obtain ⟨rs, hx, hpx⟩ := open_rows h0
  obtain ⟨a1, rfl, rfl, rfl, w1⟩ := open_int Try.underlying2 (hval 1 2 v1 rfl rfl) h1
  obtain ⟨a2, rfl, rfl, rfl, w2⟩ := open_string Try.underlying9 (hval 2 9 v2 rfl rfl) h2
  clear hA0 hval0
  refine (taxLaw_walk a0 len0 cap0 rs a1 a2 W hx hpx).mono fun e W' ⟨he, bel⟩ => ?_
  subst he
  exact ⟨_, rfl, _, _, _, [], _, [], hW', trodAll_mk1 (shut_bool Try.underlying4 _), (trodAll_cons_mk (Below.trod laidOut (by kernel_rfl) (of_decide_eq_true (by kernel_rfl)) h0 bel lt0) (trodAll_cons_mk (shut_int Try.underlying2 w1) (trodAll_cons_mk (shut_string Try.underlying9 w2) trodAll_mk0))), rfl, bel.frame _, fun h => by cases h⟩

theorem over : Rows.fnTaxKeyByRateSpecRow.holds Try.pinned (OpenSpec.ofChange Rows.fnTaxKeyByRateSpecSpec) :=
  OpenClaim.holds_of_wide 5 Try.f5 rfl rfl rfl rfl rfl rfl rfl ⟨rfl, rfl, rfl, rfl, rfl⟩ rfl rfl rfl rfl rfl (by kernel_rfl) Try.func5 (by kernel_rfl)
    (of_decide_eq_true (by kernel_rfl)) (by unfold Func.isWrapper; first | (rw [if_pos (by decide +kernel)]; kernel_rfl) | (rw [if_neg (by decide +kernel)]; exact ⟨rfl, rfl⟩))
    (fun os started H enc _ => lifted os started H enc)

end Go.Proofs.Qxb6601219a.fnTax

namespace Go.Proofs.Qxb6601219a
/-- THE STATEMENT -/
theorem fnTaxKeyByRateSpec_proved : Rows.FnTaxKeyByRateSpecSaid := fnTax.over
#print axioms fnTaxKeyByRateSpec_proved
end Go.Proofs.Qxb6601219a
