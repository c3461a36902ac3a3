import Derived.Test.Qxb6601200aZZC
import Derived.Test.Qxb6601200aUtf
import Derived.Laws.IdiomStrings
set_option linter.unusedSimpArgs false
set_option linter.unusedVariables false
namespace Go.Proofs.Qxb6601200a
open Go.RowKit

theorem runesFrom_eq (s : ByteArray) : ∀ (f i : Nat) (acc : Array Value), (Conv.runesFrom s f i acc).toList = acc.toList ++ (runesAt s f i).map (Value.int .i32)
  | 0, i, acc => by simp [Conv.runesFrom, runesAt]
  | f + 1, i, acc => by
    unfold Conv.runesFrom runesAt
    split
    · rename_i h
      simp only
      rw [runesFrom_eq s f]
      simp
    · simp
theorem runesFrom_runes (s : ByteArray) : Conv.runesFrom s s.size 0 #[] = ((runes s).map (Value.int .i32)).toArray := by
  apply Array.ext'
  rw [runesFrom_eq]
  simp [runes, runesLeft]
/-- What '[]rune(s)' lays, behind names that the walk does not open. -/
def rcap (w : World) (k : Nat) : Nat := grownCap w k 0 21
def rarr (w : World) (L : List Int) : Array Value := (L.map (Value.int .i32)).toArray ++ Array.replicate (rcap w L.length - L.length) (.int .i32 0)
theorem runes_run (s : ByteArray) (L : List Int) (hL : runes s = L) (hs : s.size ≤ 70368744177664) (w : World) :
    (convert 9 42 (.string s)).run Try.prog w = .ok (.slice (some ⟨w.heap.size, 0, none⟩) L.length (rcap w L.length)) (w.drew.alloc (.cells (rarr w L) 21)) := by
  have hl : (Conv.runesFrom s s.size 0 #[]).size = L.length := by rw [runesFrom_runes, hL]; simp
  have := run_runes_of_string (P := Try.prog) w 9 42 21 s Try.underlying9 Try.underlying42 Try.underlying21 (by rw [hl, ← hL]; exact Nat.le_trans (runes_length s) hs)
  rw [this, hl, runesFrom_runes, hL]
  rfl
theorem rarr_row (w : World) (L : List Int) : RowN (w.drew.alloc (.cells (rarr w L) 21)) w.heap.size 21 (rarr w L).size L.length (fun i => .int .i32 (iat L i)) := by
  refine ⟨fun i => ((rarr w L)[i]?).getD (.int .i32 0), ?_, fun i hi => ?_⟩
  · exact ⟨_, heap_alloc_new w.drew _, rfl, fun i hi => by simp [hi]⟩
  · simp [rarr, Array.getElem?_append, hi, iat, List.getElem?_eq_getElem hi]
theorem rarr_size (w : World) (L : List Int) : L.length ≤ (rarr w L).size := by simp [rarr]

theorem drop_iat {rs : List Int} {k : Nat} (h : k < rs.length) : rs.drop k = iat rs k :: rs.drop (k + 1) := by
  rw [List.drop_eq_getElem_cons h]
  simp [iat, List.getElem?_eq_getElem h]
theorem toks_lit (rs : List Int) : toks true rs = rs := by
  have : ∀ (rs L : List Int), (rs.foldl (tstep true) (false, L)) = (false, L ++ rs) := by
    intro rs
    induction rs with
    | nil => intro L; simp
    | cons r rs ih => intro L; rw [List.foldl_cons]; simp only [tstep]; simp [ih]
  unfold toks
  rw [this]; rfl

def TokEnd (L : List Int) (e : Ending) (W : World) : Prop := ∃ a n cap, e = .returned (.slice a n cap) ∧ L.length = n ∧ Ints .i32 W a L

set_option maxRecDepth 100000 in
set_option maxHeartbeats 4000000 in
theorem tokens_lit (s : ByteArray) (w : World) (hs : s.size ≤ 4194304) : Calls Try.prog 22 #[.string s, .bool true] w fun e w' => TokEnd (toks true (runes s)) e w' ∧ Below w.heap.size w w' := by
  obtain ⟨rs, hrs⟩ : ∃ rs, runes s = rs := ⟨_, rfl⟩
  have hcv := runes_run s rs hrs (by omega)
  rw [hrs, toks_lit]
  clear hrs
  go_enter Try.func22, Try.ntmps22
  go_wp2
  go_ret
  have h := rarr_row w rs
  exact ⟨⟨_, _, _, rfl, rfl, (h.row (Nat.le_refl _) (rarr_size w rs))⟩, ((Below.refl _ _).drew).alloc (Nat.le_refl _) _⟩

set_option maxRecDepth 100000 in
set_option maxHeartbeats 4000000 in
theorem tokens_plain (s : ByteArray) (w : World) (hsz : s.size ≤ 4194304) : Calls Try.prog 22 #[.string s, .bool false] w fun e w' => TokEnd (toks false (runes s)) e w' ∧ Below w.heap.size w w' := by
  obtain ⟨rs, hrs⟩ : ∃ rs, runes s = rs := ⟨_, rfl⟩
  have hcv := runes_run s rs hrs (by omega)
  have hnl : rs.length ≤ 4194304 := by rw [← hrs]; exact Nat.le_trans (runes_length s) hsz
  rw [hrs]
  clear hrs
  obtain ⟨n, hn⟩ : ∃ n, rs.length = n := ⟨_, rfl⟩
  rw [hn] at hcv hnl
  have HN : Hid (rs.length = n) := hn
  clear hn
  have k1 := make0_run 42 21 _ 4 Try.underlying42 Try.info21 n (by omega) (by omega)
  go_enter Try.func22, Try.ntmps22
  go_wp2
  have hMs := rarr_size w rs
  rw [HN.out] at hMs
  go_loopw [6, 7] (fun o kk wr => ∃ (k : Nat) (L : List Int), k ≤ n ∧ L.length ≤ k ∧ kk = .int .i64 k ∧ o = .slice (some ⟨w.heap.size + 1, 0, none⟩) L.length n ∧ ((rs.drop k).foldl (tstep false) (false, L)).2 = toks false rs ∧ Below w.heap.size w wr ∧ RowN wr w.heap.size 21 (rarr w rs).size n (fun i => .int .i32 (iat rs i)) ∧ RowN wr (w.heap.size + 1) 21 n L.length (fun i => .int .i32 (iat L i))) (fun _ kk _ => n - (intOf kk).toNat)
  case atStart =>
    have h := rarr_row w rs
    rw [HN.out] at h
    refine ⟨0, [], by omega, by simp, rfl, rfl, rfl, (((Below.refl _ _).alloc (Nat.le_refl _) _).alloc (by simp) _).drew, h.alloc _, ?_⟩
    have h2 := RowN.start (w.alloc (.cells (rarr w rs) 21)) (.int .i32 0) 21 n (fun i => .int .i32 (iat [] i))
    rw [World.size_alloc] at h2
    exact h2
  case round =>
    obtain ⟨k, L, hk, hLk, rfl, rfl, hF0, hb, hrr, hr⟩ := hrel
    have HF : Hid (((rs.drop k).foldl (tstep false) (false, L)).2 = toks false rs) := hF0
    have hs := hb.size
    have fin : ∀ (L' : List Int) (wx : World), L' = toks false rs → RowN wx (w.heap.size + 1) 21 n L'.length (fun i => .int .i32 (iat L' i)) → L'.length ≤ n → TokEnd (toks false rs) (.returned (.slice (some ⟨w.heap.size + 1, 0, none⟩) L'.length n)) wx := fun L' wx h1 h2 h3 => ⟨_, _, _, rfl, by rw [h1], by rw [← h1]; exact h2.row (Nat.le_refl _) h3⟩
    by_cases hlt : k < n
    · have g1 := hrr.cellAt (i := k) hlt (by omega)
      have l1 : (k : Int) < (n : Int) := by omega
      cases t92 : (iat rs k == 92) with
      | true =>
        have H9 : Hid (iat rs k = 92) := beq_iff_eq.1 t92
        by_cases hk1 : k + 1 < n
        · have g2 := hrr.cellAt (i := k + 1) hk1 (by omega)
          have l2 : (((k : Int) + 1) == (n : Int)) = false := beq_eq_false_iff_ne.2 (by omega)
          have l3 : (k : Int) + 1 < (n : Int) := by omega
          have HF2 : Hid (((rs.drop (k + 2)).foldl (tstep false) (tstep false (true, L) (iat rs (k + 1)))).2 = toks false rs) := by
            show _ = _
            have := HF.out
            rw [drop_iat (by have := HN.out; omega), drop_iat (by have := HN.out; omega)] at this
            simp only [List.foldl_cons, H9.out] at this
            exact this
          clear hF0
          cases q0 : (iat rs (k + 1) == 40) with
          | true =>
            have HQ0 : Hid (iat rs (k + 1) = 40) := beq_iff_eq.1 q0
            go_wp2_with (at_builtin; refine append_row rfl _ _ 42 rfl Try.underlying42 Try.info21 (by exact hr.alloc _) rfl (by omega) wr.heap.size (.int .i32 (-4)) rfl (by exact heap_alloc_new wr _) rfl ?_)
            go_roundw
            case rel => exact ⟨k + 2, L ++ [-4], by omega, by simp; omega, by go_num, by simp, by have := HF2.out; simpa [tstep, HQ0.out] using this, (hb.alloc hs _).setCell (by simp) _, (hrr.alloc _).setOther (by simp) _, row_push (hr.alloc _) _⟩
            case measure => simp [intOf]; omega
          | false =>
            have HQ0 : Hid (¬ iat rs (k + 1) = 40) := beq_eq_false_iff_ne.1 q0
            cases q1 : (iat rs (k + 1) == 123) with
            | true =>
              have HQ1 : Hid (iat rs (k + 1) = 123) := beq_iff_eq.1 q1
              go_wp2_with (at_builtin; refine append_row rfl _ _ 42 rfl Try.underlying42 Try.info21 (by exact hr.alloc _) rfl (by omega) wr.heap.size (.int .i32 (-5)) rfl (by exact heap_alloc_new wr _) rfl ?_)
              go_roundw
              case rel => exact ⟨k + 2, L ++ [-5], by omega, by simp; omega, by go_num, by simp, by have := HF2.out; simpa [tstep, HQ1.out] using this, (hb.alloc hs _).setCell (by simp) _, (hrr.alloc _).setOther (by simp) _, row_push (hr.alloc _) _⟩
              case measure => simp [intOf]; omega
            | false =>
              have HQ1 : Hid (¬ iat rs (k + 1) = 123) := beq_eq_false_iff_ne.1 q1
              cases q2 : (iat rs (k + 1) == 125) with
              | true =>
                have HQ2 : Hid (iat rs (k + 1) = 125) := beq_iff_eq.1 q2
                go_wp2_with (at_builtin; refine append_row rfl _ _ 42 rfl Try.underlying42 Try.info21 (by exact hr.alloc _) rfl (by omega) wr.heap.size (.int .i32 (-6)) rfl (by exact heap_alloc_new wr _) rfl ?_)
                go_roundw
                case rel => exact ⟨k + 2, L ++ [-6], by omega, by simp; omega, by go_num, by simp, by have := HF2.out; simpa [tstep, HQ2.out] using this, (hb.alloc hs _).setCell (by simp) _, (hrr.alloc _).setOther (by simp) _, row_push (hr.alloc _) _⟩
                case measure => simp [intOf]; omega
              | false =>
                have HQ2 : Hid (¬ iat rs (k + 1) = 125) := beq_eq_false_iff_ne.1 q2
                go_wp2_with (at_builtin; refine append_row rfl _ _ 42 rfl Try.underlying42 Try.info21 (by exact hr.alloc _) rfl (by omega) wr.heap.size (.int .i32 (iat rs (k + 1))) rfl (by exact heap_alloc_new wr _) rfl ?_)
                go_roundw
                case rel => exact ⟨k + 2, L ++ [(iat rs (k + 1))], by omega, by simp; omega, by go_num, by simp, by have := HF2.out; simpa [tstep, HQ0.out, HQ1.out, HQ2.out] using this, (hb.alloc hs _).setCell (by simp) _, (hrr.alloc _).setOther (by simp) _, row_push (hr.alloc _) _⟩
                case measure => simp [intOf]; omega
        · have l2 : (((k : Int) + 1) == (n : Int)) = true := beq_iff_eq.2 (by omega)
          have hL : L = toks false rs := by
            have := HF.out
            rw [drop_iat (by have := HN.out; omega), List.drop_eq_nil_of_le (by have := HN.out; omega)] at this
            simpa [tstep, H9.out] using this
          have HLL : Hid (L = toks false rs) := hL
          clear hL hF0
          go_wp2
          go_ret
          exact ⟨fin _ _ HLL.out hr (by omega), hb⟩
      | false =>
        have H9 : Hid (¬ iat rs k = 92) := beq_eq_false_iff_ne.1 t92
        have HF2 : Hid (((rs.drop (k + 1)).foldl (tstep false) (tstep false (false, L) (iat rs k))).2 = toks false rs) := by
          show _ = _
          have := HF.out
          rw [drop_iat (by have := HN.out; omega)] at this
          simp only [List.foldl_cons] at this
          exact this
        clear hF0
        cases s0 : (iat rs k == 42) with
        | true =>
          have HS0 : Hid (iat rs k = 42) := beq_iff_eq.1 s0
          go_wp2_with (at_builtin; refine append_row rfl _ _ 42 rfl Try.underlying42 Try.info21 (by exact hr.alloc _) rfl (by omega) wr.heap.size (.int .i32 (-2)) rfl (by exact heap_alloc_new wr _) rfl ?_)
          go_roundw
          case rel => exact ⟨k + 1, L ++ [-2], by omega, by simp; omega, by go_num, by simp, by have := HF2.out; simpa [tstep, HS0.out] using this, (hb.alloc hs _).setCell (by simp) _, (hrr.alloc _).setOther (by simp) _, row_push (hr.alloc _) _⟩
          case measure => simp [intOf]; omega
        | false =>
          have HS0 : Hid (¬ iat rs k = 42) := beq_eq_false_iff_ne.1 s0
          cases s1 : (iat rs k == 63) with
          | true =>
            have HS1 : Hid (iat rs k = 63) := beq_iff_eq.1 s1
            go_wp2_with (at_builtin; refine append_row rfl _ _ 42 rfl Try.underlying42 Try.info21 (by exact hr.alloc _) rfl (by omega) wr.heap.size (.int .i32 (-3)) rfl (by exact heap_alloc_new wr _) rfl ?_)
            go_roundw
            case rel => exact ⟨k + 1, L ++ [-3], by omega, by simp; omega, by go_num, by simp, by have := HF2.out; simpa [tstep, HS1.out] using this, (hb.alloc hs _).setCell (by simp) _, (hrr.alloc _).setOther (by simp) _, row_push (hr.alloc _) _⟩
            case measure => simp [intOf]; omega
          | false =>
            have HS1 : Hid (¬ iat rs k = 63) := beq_eq_false_iff_ne.1 s1
            go_wp2_with (at_builtin; refine append_row rfl _ _ 42 rfl Try.underlying42 Try.info21 (by exact hr.alloc _) rfl (by omega) wr.heap.size (.int .i32 (iat rs k)) rfl (by exact heap_alloc_new wr _) rfl ?_)
            go_roundw
            case rel => exact ⟨k + 1, L ++ [(iat rs k)], by omega, by simp; omega, by go_num, by simp, by have := HF2.out; simpa [tstep, H9.out, HS0.out, HS1.out] using this, (hb.alloc hs _).setCell (by simp) _, (hrr.alloc _).setOther (by simp) _, row_push (hr.alloc _) _⟩
            case measure => simp [intOf]; omega
    · have hL : L = toks false rs := by
        have := HF.out
        rw [List.drop_eq_nil_of_le (by have := HN.out; omega)] at this
        simpa using this
      have HLL : Hid (L = toks false rs) := hL
      clear hL hF0
      go_wp2
      go_ret
      exact ⟨fin _ _ HLL.out hr (by omega), hb⟩

theorem tokens_any (s : ByteArray) (lit : Bool) (w : World) (hs : s.size ≤ 4194304) : Calls Try.prog 22 #[.string s, .bool lit] w fun e w' => TokEnd (toks lit (runes s)) e w' ∧ Below w.heap.size w w' := by
  cases lit with
  | true => exact tokens_lit s w hs
  | false => exact tokens_plain s w hs
end Go.Proofs.Qxb6601200a
