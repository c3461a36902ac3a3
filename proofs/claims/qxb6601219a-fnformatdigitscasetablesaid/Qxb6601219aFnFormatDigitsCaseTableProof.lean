/- The shell of this proof was written by program; its walk is ours. -/
import Derived.Test.Qxb6601219aRows
import Derived.Test.Qxb6601219aBase
import Derived.WalkKit
import Derived.ProofKit
import Derived.OpenShut
import Derived.ShutString
namespace Go.Proofs.Qxb6601219a.fnFormatDigitsCaseTable
open Go.ChangeShapes Go.WideShapes Go.ChangeAt Go.RowKit
open Go.ChangeMaps (open_string shut_string)
set_option linter.unusedVariables false      -- a walk need not use every 'w<i>' (that an integer argument fits its kind)

theorem own : ownKnob Try.prog.godebug = none := by kernel_rfl

/-! ### STEP 1: THE WALK: the Go text returns true. 'Grown w w'': the world has at most new blocks (Derived/RowKit3.lean). Part the cases AHEAD of 'go_enter' where a test parts the walk; take each callee by a contract of your own. -/
theorem walk (a0 : Bool) (a1 : ByteArray) (a2 : Int) (a3 : Int) (w1 : a1.size ≤ maxLen) (w2 : (Lit.int .i64 a2).wf = true) (w3 : (Lit.int .u8 a3).wf = true) (w : World) :
    Calls Try.prog 3 #[.bool a0, .string a1, .int .i64 a2, .int .u8 a3] w fun e w' => e = .returned (.bool true) ∧ Grown w w' := by
  have hm : 0 ≤ a3 ∧ a3 ≤ 255 := Go.bounds_u8 w3
  go_enter Try.func3, Try.ntmps3
  go_wp2_with fail
  refine (bytes7_any a0 a1 a2 a3 _).mono ?_
  rintro e w' ⟨⟨r, rfl, hr⟩, rfl⟩
  cases r with
  | false =>
    go_wp2
    go_ret
    exact ⟨rfl, Grown.refl _⟩
  | true =>
    have hd := hr rfl
    clear hr
    have hd2 : (a1.size : Int) ≤ 1048576 := by omega
    by_cases h0 : a2 < 0
    · go_wp2
      go_ret
      exact ⟨rfl, Grown.refl _⟩
    · by_cases h1 : 65536 < a2
      · have h0' : 0 ≤ a2 := by omega
        clear h0
        go_wp2
        go_ret
        exact ⟨rfl, Grown.refl _⟩
      · obtain ⟨p, rfl⟩ : ∃ p : Nat, a2 = (p : Int) := ⟨a2.toNat, by omega⟩
        have hp : p ≤ 65536 := by omega
        have h1' : (p : Int) ≤ 65536 := by omega
        clear h0 h1
        have hs1 : (sgn a0).size ≤ 1 := by cases a0 <;> decide
        have ca := fun w => fd_shim a0 a1 p a3 (by omega) hp w
        have cs := fun w => sgn_any a0 w
        have cm := fun w => mark_any a3 hm.1 hm.2 w
        have he := enc_size a3
        have HMM : Hid (0 ≤ a3 ∧ a3 ≤ 255) := hm
        clear hm
        by_cases hle : a1.size ≤ p
        · have hle2 : (a1.size : Int) ≤ (p : Int) := by omega
          rw [fd_table_short a0 a3 hle] at ca
          have cz := fun w => zeros_any (p - a1.size) (by omega) w
          rw [show ((p - a1.size : Nat) : Int) = (p : Int) - (a1.size : Int) from by omega] at cz
          have hz : (zs (p - a1.size)).size ≤ 65536 := by rw [zs_size]; omega
          generalize zs (p - a1.size) = Z at *
          generalize sgn a0 = S at *
          generalize Utf8.encode a3 = E at *
          clear hle
          go_wp2_with fail
          refine (ca _).mono ?_
          rintro e w1 ⟨rfl, hq1⟩
          go_wp2_with fail
          refine (cz _).mono ?_
          rintro e w2 ⟨rfl, hq2⟩
          go_wp2_with fail
          refine (cs _).mono ?_
          rintro e w3 ⟨rfl, rfl⟩
          go_wp2_with fail
          refine (cm _).mono ?_
          rintro e w4 ⟨rfl, hq4⟩
          go_wp2
          go_ret
          exact ⟨by simp, grown_trans (grown_trans hq1.grown hq2) hq4⟩
        · have hle2 : (p : Int) < (a1.size : Int) := by omega
          rw [fd_table_long a0 a3 (by omega)] at ca
          have c0 : 0 ≤ (a1.size : Int) - (p : Int) := by omega
          have c1 : (a1.size : Int) - (p : Int) ≤ a1.size := by omega
          have hcut : ((a1.size : Int) - (p : Int)).toNat = a1.size - p := by omega
          generalize sgn a0 = S at *
          generalize Utf8.encode a3 = E at *
          clear hle
          go_wp2_with fail
          refine (ca _).mono ?_
          rintro e w1 ⟨rfl, hq1⟩
          go_wp2_with fail
          refine (cs _).mono ?_
          rintro e w3 ⟨rfl, rfl⟩
          go_wp2_with fail
          refine (cm _).mono ?_
          rintro e w4 ⟨rfl, hq4⟩
          go_wp2
          go_ret
          exact ⟨by simp, grown_trans hq1.grown hq4⟩

/-! ### THE ROW's STEP: WRITTEN OUT: LEAVE IT -/
set_option maxRecDepth 100000 in
theorem lifted (os : Os) (started : os.Started) (H : Type) (enc : TypeId × Value → H) :
    ReturnsInHanded {} Try.checked os 3 .any (Rows.fnFormatDigitsCaseTableSpec.pre6 enc Try.prog Try.f3 Rows.fnFormatDigitsCaseTableRow.domain false) (Rows.fnFormatDigitsCaseTableSpec.post enc Try.prog Try.f3 false true false false) := by
  refine returnsInHanded_of_change (C := Try.checked) own started (by kernel_rfl) Try.func3
    (ChangeSpec.witness6 (enc := enc) (C := Try.checked) false ⟨#[], #[.bool false, .string ByteArray.empty, .int .i64 0, .int .u8 0], []⟩ 8 (by kernel_rfl) (by kernel_rfl) (by kernel_rfl) (by kernel_rfl)) ?_
  intro W base args ds gs before hval0 hW hcnd _
  have hval : ∀ (j : Nat) t v, Try.f3.params[j]? = some t → args[j]? = some v → Value.okWide Try.prog W .any base t v := hval0
  have hW' := hW
  obtain ⟨p, q, hA0, hV, rfl, hfz, hnd⟩ := hW
  have hA : DataW.TrodAll enc Try.prog W 0 (fun _ => true) true Try.f3.params.toList args.toList ds p := hA0
  rw [Try.params3] at hA hval
  obtain ⟨v0, vs0, d0, ds0, p0, q0, hargs, rfl, rfl, h0, r0⟩ := trodAll_cons hA
  obtain ⟨v1, vs1, d1, ds1, p1, q1, rfl, rfl, rfl, h1, r1⟩ := trodAll_cons r0
  obtain ⟨v2, vs2, d2, ds2, p2, q2, rfl, rfl, rfl, h2, r2⟩ := trodAll_cons r1
  obtain ⟨v3, vs3, d3, ds3, p3, q3, rfl, rfl, rfl, h3, r3⟩ := trodAll_cons r2
  obtain ⟨rfl, rfl, rfl⟩ := trodAll_nil r3
  obtain rfl : args = #[v0, v1, v2, v3] := by cases args; simp_all
  obtain ⟨rfl, rfl⟩ := trodVars_none hV
  obtain ⟨a0, rfl, rfl, rfl⟩ := open_bool Try.underlying4 (hval 0 4 v0 rfl rfl) h0
  obtain ⟨a1, rfl, rfl, rfl, w1⟩ := open_string Try.underlying9 (hval 1 9 v1 rfl rfl) h1
  obtain ⟨a2, rfl, rfl, rfl, w2⟩ := open_int Try.underlying3 (hval 2 3 v2 rfl rfl) h2
  obtain ⟨a3, rfl, rfl, rfl, w3⟩ := open_int Try.underlying5 (hval 3 5 v3 rfl rfl) h3
  clear hA0 hval0
  simp only [List.append_nil] at hW'
  refine (walk a0 a1 a2 a3 w1 w2 w3 W).mono fun e W' ⟨he, hg⟩ => ?_
  subst he
  exact ⟨_, rfl, post_of_same (pa := []) (pv := []) hW' (fun _ _ _ => (trodAll_cons_mk (shut_bool Try.underlying4 _) trodAll_mk0)) (fun sp _ => (trodAll_cons_mk (shut_bool Try.underlying4 _) (trodAll_cons_mk (shut_string Try.underlying9 w1) (trodAll_cons_mk (shut_int Try.underlying3 w2) (trodAll_cons_mk (shut_int Try.underlying5 w3) trodAll_mk0))))) (fun _ _ => rfl) rfl
    (hg.frame _) hg.2.1 (ok_one (by kernel_rfl) rfl (okWide_bool_mk Try.underlying4 _))⟩

theorem over : Rows.fnFormatDigitsCaseTableRow.holds Try.pinned (OpenSpec.ofChange Rows.fnFormatDigitsCaseTableSpec) :=
  OpenClaim.holds_of_wide 3 Try.f3 rfl rfl rfl rfl rfl rfl rfl ⟨rfl, rfl, rfl, rfl, rfl⟩ rfl rfl rfl rfl rfl (by kernel_rfl) Try.func3 (by kernel_rfl)
    (of_decide_eq_true (by kernel_rfl)) (by unfold Func.isWrapper; first | (rw [if_pos (by decide +kernel)]; kernel_rfl) | (rw [if_neg (by decide +kernel)]; exact ⟨rfl, rfl⟩))
    (fun os started H enc _ => lifted os started H enc)

/-- ████ THE STATEMENT ████ -/
theorem proved : Rows.FnFormatDigitsCaseTableSaid :=
  over
#print axioms proved
end Go.Proofs.Qxb6601219a.fnFormatDigitsCaseTable
