import Derived.Test.Qxb6601200aRows
import Derived.Test.Qxb6601200aPBase
import Derived.ProofKit
import Derived.OpenShut
import Derived.ShutString
import Derived.ChangeOld
import Derived.Below
import Derived.Deep.Slices
set_option linter.unusedSimpArgs false
set_option linter.unusedVariables false
namespace Go.Proofs.Qxb6601200a
open Go.ChangeShapes Go.WideShapes Go.ChangeAt Go.RowKit Go.Deep

theorem own_ : ownKnob Try.prog.godebug = none := by kernel_rfl
theorem laidOut_ : laidOutB Try.prog = true := by kernel_rfl
theorem cells3_ : Try.prog.cellsOf 3 = 1 := by kernel_rfl
theorem cells9_ : Try.prog.cellsOf 9 = 1 := by kernel_rfl
theorem cells4_ : Try.prog.cellsOf 4 = 1 := by kernel_rfl
theorem cells49_ : Try.prog.cellsOf 49 = 3 := by kernel_rfl

/-- A slice of numbers that came in. -/
theorem open_ints64 {H : Type} {enc : TypeId × Value → H} {W : World} {a : Option Addr} {len cap : Nat} {d : DataW H} {p : List MemPlace}
    (h : DataW.Trod enc Try.prog W 0 (fun _ => true) true 33 (.slice a len cap) d p) :
    len ≤ maxLen ∧ ∃ zs, zs.length = len ∧ Ints .i64 W a zs ∧ ∀ i, i < len → -9223372036854775808 ≤ iat zs i ∧ iat zs i ≤ 9223372036854775807 := by
  obtain ⟨fuel, hf⟩ := h
  rcases open_ints Try.underlying33 Try.underlying3 cells3_ hf with ⟨hcs, _⟩ | ⟨x, l, c, zs, hcs, _, hl, hm, hz, _, hcell, hwz⟩
  · simp [Value.cells] at hcs
    obtain ⟨rfl, rfl, rfl⟩ := hcs
    exact ⟨by omega, [], rfl, fun i hi => by simp at hi, fun i hi => by omega⟩
  · simp [Value.cells] at hcs
    obtain ⟨rfl, rfl, rfl⟩ := hcs
    simp only [if_true] at hz
    have hlz : len ≤ zs.length := by omega
    have hg : ∀ i, i < len → iat (zs.take len) i = zs.getD i 0 := fun i hi => by simp [iat, List.getElem?_take, hi]
    refine ⟨by omega, zs.take len, by simp; omega, fun i hi => ?_, fun i hi => ?_⟩
    · have hi' : i < len := by simp at hi; omega
      have c0 := hcell i (by omega)
      have hs0 := hcell 0 (by omega)
      obtain ⟨b, off, spot⟩ := x
      have hs : spot = none := by simpa [Addr.add] using World.cell?_spot hs0
      subst hs
      rw [add_plain] at c0
      exact ⟨b, off, rfl, World.block_lt_of_cell? W _ c0, by rw [c0]; simp only [hg i hi']⟩
    · have hmem : zs.getD i 0 ∈ zs := by
        have : i < zs.length := by omega
        simp [List.getElem?_eq_getElem this]
      have := bounds_i64 (hwz _ hmem)
      rw [hg i hi]; exact this

/-- A slice of patterns that came in. -/
theorem open_pats {H : Type} {enc : TypeId × Value → H} {W : World} {a : Option Addr} {len cap : Nat} {d : DataW H} {p : List MemPlace}
    (h : DataW.Trod enc Try.prog W 0 (fun _ => true) true 32 (.slice a len cap) d p) :
    len ≤ maxLen ∧ ∃ ps, ps.length = len ∧ Pats W a ps ∧ ∀ i, i < len → (ptx ps i).size ≤ maxLen := by
  obtain ⟨fuel, hf⟩ := h
  rcases open_slice Try.underlying32 hf with ⟨hcs, _⟩ | ⟨x, l, c, m, n, D, Pl, hcs, _, hl, hm, hmm, _, hx⟩
  · simp [Value.cells] at hcs
    obtain ⟨rfl, rfl, rfl⟩ := hcs
    exact ⟨by omega, [], rfl, fun i hi => by simp at hi, fun i hi => by omega⟩
  · simp [Value.cells] at hcs
    obtain ⟨rfl, rfl, rfl⟩ := hcs
    simp only [if_true] at hmm
    refine ⟨by omega, ?_⟩
    have each : ∀ i, i < len → ∃ q : ByteArray × Bool × Bool, W.cell? (x.add (i * 3)) = some (.string q.1) ∧ W.cell? (x.add (i * 3 + 1)) = some (.bool q.2.1) ∧ W.cell? (x.add (i * 3 + 2)) = some (.bool q.2.2) ∧ q.1.size ≤ maxLen := by
      intro i hi
      obtain ⟨cs', h1, h2⟩ := hx i (by omega)
      rw [cells49_] at h1
      obtain ⟨_, hlen, hcell⟩ := World.cells?_some h1
      obtain ⟨ys, k, hk, hxy, _, hyl, hg⟩ := DataW.trod_struct Try.underlying49 h2
      have hyl3 : ys.length = 3 := by rw [hyl]; rfl
      have g0 := hg 0 _ rfl
      have g1 := hg 1 _ rfl
      have g2 := hg 2 _ rfl
      rw [List.getElem?_eq_getElem (by omega)] at g0 g1 g2
      obtain ⟨s0, e0, _, hs0⟩ := DataW.trod_string Try.underlying9 g0
      obtain ⟨b1, e1, _⟩ := DataW.trod_bool Try.underlying4 g1
      obtain ⟨b2, e2, _⟩ := DataW.trod_bool Try.underlying4 g2
      replace e0 : (cs'.drop 0).take 1 = [.string s0] := by rw [← cells9_]; exact e0
      replace e1 : (cs'.drop 1).take 1 = [.bool b1] := by rw [← cells4_]; exact e1
      replace e2 : (cs'.drop 2).take 1 = [.bool b2] := by rw [← cells4_]; exact e2
      have c0 := hcell 0 (by omega)
      have c1 := hcell 1 (by omega)
      have c2 := hcell 2 (by omega)
      rw [add_add] at c0 c1 c2
      refine ⟨(s0, b1, b2), ?_, ?_, ?_, hs0⟩
      · match cs', hlen, e0 with
        | [v0, v1, v2], _, e0 => simp at e0; subst e0; simpa using c0
      · match cs', hlen, e1 with
        | [v0, v1, v2], _, e1 => simp at e1; subst e1; simpa using c1
      · match cs', hlen, e2 with
        | [v0, v1, v2], _, e2 => simp at e2; subst e2; simpa using c2
    have each2 : ∀ i, i < len → ∃ q : Pat, W.cell? (x.add (i * 3)) = some (.string q.text) ∧ W.cell? (x.add (i * 3 + 1)) = some (.bool q.fold) ∧ W.cell? (x.add (i * 3 + 2)) = some (.bool q.lit) ∧ q.text.size ≤ maxLen := fun i hi => by
      obtain ⟨q, h⟩ := each i hi
      exact ⟨⟨q.1, q.2.1, q.2.2⟩, h⟩
    obtain ⟨q, hq⟩ : ∃ q : Nat → Pat, ∀ i, i < len → W.cell? (x.add (i * 3)) = some (.string (q i).text) ∧ W.cell? (x.add (i * 3 + 1)) = some (.bool (q i).fold) ∧ W.cell? (x.add (i * 3 + 2)) = some (.bool (q i).lit) ∧ (q i).text.size ≤ maxLen := by
      classical
      refine ⟨fun i => if hi : i < len then Classical.choose (each2 i hi) else patNone, fun i hi => ?_⟩
      simp only [dif_pos hi]
      exact Classical.choose_spec (each2 i hi)
    have hP : ∀ i, i < len → ptx ((List.range len).map q) i = (q i).text ∧ pfo ((List.range len).map q) i = (q i).fold ∧ pli ((List.range len).map q) i = (q i).lit := fun i hi => by simp [ptx, pfo, pli, hi]
    refine ⟨(List.range len).map q, by simp, fun i hi => ?_, fun i hi => by rw [(hP i hi).1]; exact (hq i hi).2.2.2⟩
    have hi' : i < len := by simpa using hi
    obtain ⟨b, off, spot⟩ := x
    have hs : spot = none := by simpa [Addr.add] using World.cell?_spot (hq 0 (by omega)).1
    subst hs
    have c := hq i hi'
    rw [add_plain, add_plain, add_plain] at c
    refine ⟨b, off, rfl, World.block_lt_of_cell? W _ c.1, ?_, ?_, ?_⟩
    · rw [(hP i hi').1]; exact c.1
    · rw [(hP i hi').2.1]; exact c.2.1
    · rw [(hP i hi').2.2]; exact c.2.2.1

end Go.Proofs.Qxb6601200a
