import Derived.Test.Qxb6601200aZZC
set_option linter.unusedSimpArgs false
set_option linter.unusedVariables false
namespace Go.Proofs.Qxb6601200a
open Go.RowKit

theorem isStop_any (c : Int) (w : World) : Calls Try.prog 39 #[.int .i32 c] w fun e w' => e = .returned (.bool (isStop c)) ∧ w' = w := by
  cases hs : isStop c with
  | true =>
    rcases isStop_true hs with s1 | ⟨s1, s2⟩ | ⟨s1, s2, s3⟩
    all_goals
      go_enter Try.func39, Try.ntmps39
      go_wp2
      go_ret
      exact ⟨rfl, rfl⟩
  | false =>
    obtain ⟨s1, s2, s3⟩ := isStop_false hs
    go_enter Try.func39, Try.ntmps39
    go_wp2
    go_ret
    exact ⟨rfl, rfl⟩

set_option maxHeartbeats 400000 in
theorem groupCount_any (a : Option Addr) (n cap : Nat) (gs : List Int) (w : World) (HN : Hid (gs.length = n)) (hn : n ≤ 1048576) (hp : Ints .i64 w a gs) (hgs : ∀ i, i < n → -9223372036854775808 ≤ iat gs i ∧ iat gs i ≤ 65536) :
    Calls Try.prog 25 #[.slice a n cap] w fun e w' => e = .returned (.int .i64 ((gcount gs : Nat) : Int)) ∧ w' = w := by
  have hgc : ∀ k, k ≤ n → 0 ≤ gcTo gs k ∧ gcTo gs k ≤ 65537 := fun k hk => ⟨gcTo_nonneg gs k, gcTo_le gs 65536 (by omega) (fun i hi => (hgs i (by have := HN.out; omega)).2) k (by have := HN.out; omega)⟩
  go_enter Try.func25, Try.ntmps25
  go_wp2
  go_loop [3, 4] (fun s k => ∃ q : Nat, q ≤ n ∧ s = .int .i64 (gcTo gs q) ∧ k = .int .i64 q) (fun _ k => n - (intOf k).toNat)
  case atStart => exact ⟨0, by omega, rfl, rfl⟩
  case round =>
    obtain ⟨q, hq, rfl, rfl⟩ := hrel
    have hgq := hgc q hq
    by_cases hlt : q < n
    · obtain ⟨b, off, rfl, hbl, d0⟩ := hp q (by have := HN.out; omega)
      have hb2 := hgs q hlt
      have hl : (q : Int) < (n : Int) := by omega
      have HG : Hid (gcTo gs (q + 1) = if iat gs q + 1 > gcTo gs q then iat gs q + 1 else gcTo gs q) := rfl
      clear hp hgc hgs
      by_cases hx : gcTo gs q < iat gs q + 1
      · go_wp2
        go_round
        case rel => exact ⟨q + 1, by omega, by rw [HG.out, if_pos hx], by go_num⟩
        case measure => simp [intOf]; omega
      · have hx' : iat gs q + 1 ≤ gcTo gs q := by omega
        have HX : Hid (¬ iat gs q + 1 > gcTo gs q) := hx
        clear hx
        go_wp2
        go_round
        case rel => exact ⟨q + 1, by omega, by rw [HG.out, if_neg HX.out], by go_num⟩
        case measure => simp [intOf]; omega
    · obtain rfl : q = n := by omega
      have hl : ¬ (q : Int) < (q : Int) := by omega
      clear hp hgc hgs
      go_wp2
      go_ret
      refine ⟨?_, rfl⟩
      have := gcTo_cast gs
      rw [HN.out] at this
      rw [← this]; rfl

/-! ### The cuts, by counting stops -/
def cntF (at' : List Int) (f : Nat) : Nat → Nat
  | 0 => 0
  | j + 1 => cntF at' f j + (if isStop (iat at' (f + j)) = true then 1 else 0)
theorem cntF_le (at' : List Int) (f : Nat) : ∀ j, cntF at' f j ≤ j
  | 0 => by simp [cntF]
  | j + 1 => by have := cntF_le at' f j; simp only [cntF]; split <;> omega
theorem cut_count (ps : List Pat) (n p : Nat) (hp : p < n) : ∀ j, startOf ps p + j < startOf ps (p + 1) →
    (cutAt (atTo ps n) (fiTo ps n) (owTo ps n) (startOf ps p + j) = (startOf ps p : Int) - 1 ∧ cntF (atTo ps n) (startOf ps p) j = 0) ∨
    ∃ c, c < j ∧ cutAt (atTo ps n) (fiTo ps n) (owTo ps n) (startOf ps p + j) = ((startOf ps p + c : Nat) : Int) ∧ isStop (iat (atTo ps n) (startOf ps p + c)) = true ∧ cntF (atTo ps n) (startOf ps p) j = cntF (atTo ps n) (startOf ps p) c + 1
  | 0, hj => by
    left
    have ho : iat (owTo ps n) (startOf ps p + 0) = (p : Int) := owTo_at ps n _ p hp (by omega) hj
    refine ⟨?_, rfl⟩
    unfold cutAt
    rw [ho, Int.toNat_natCast, fiTo_at ps n p hp]
    simp
  | j + 1, hj => by
    have ih := cut_count ps n p hp j (by omega)
    have ho : iat (owTo ps n) (startOf ps p + (j + 1)) = (p : Int) := owTo_at ps n _ p hp (by omega) hj
    have hc : cutAt (atTo ps n) (fiTo ps n) (owTo ps n) (startOf ps p + (j + 1)) = if isStop (iat (atTo ps n) (startOf ps p + j)) = true then ((startOf ps p + j : Nat) : Int) else cutAt (atTo ps n) (fiTo ps n) (owTo ps n) (startOf ps p + j) := by
      conv => lhs; unfold cutAt
      rw [ho, Int.toNat_natCast, fiTo_at ps n p hp, if_neg (by omega), show startOf ps p + (j + 1) = (startOf ps p + j) + 1 by omega, lastAt_succ]
    rw [hc]
    simp only [cntF]
    by_cases hs : isStop (iat (atTo ps n) (startOf ps p + j)) = true
    · rw [if_pos hs, if_pos hs]
      exact .inr ⟨j, by omega, rfl, hs, rfl⟩
    · rw [if_neg hs, if_neg hs]
      rcases ih with ⟨h1, h2⟩ | ⟨c, h1, h2, h3, h4⟩
      · exact .inl ⟨h1, by omega⟩
      · exact .inr ⟨c, by omega, h2, h3, by omega⟩

/-- The counts: a row of mm numbers, those from f on as far as they have been told. -/
def Cnts (w : World) (g mm : Nat) (at' : List Int) (f q : Nat) : Prop := ∃ F, w.rowIs g 3 mm F ∧ ∀ c, c < q → F (f + c) = .int .i64 ((cntF at' f c : Nat) : Int)
theorem Cnts.cell {w : World} {g mm : Nat} {at' : List Int} {f q : Nat} (h : Cnts w g mm at' f q) {i : Nat} (hi : i < mm) : ∃ u, w.cell? ⟨g, i, none⟩ = some u := by
  obtain ⟨F, hF, _⟩ := h
  exact ⟨_, hF.cell hi⟩
theorem Cnts.frozen {w : World} {g mm : Nat} {at' : List Int} {f q : Nat} (h : Cnts w g mm at' f q) (i : Nat) : w.frozen? ⟨g, i, none⟩ = false := by
  obtain ⟨F, hF, _⟩ := h
  exact hF.frozen i
theorem Cnts.at {w : World} {g mm : Nat} {at' : List Int} {f q : Nat} (h : Cnts w g mm at' f q) (c : Nat) (hc : c < q) (hm : f + c < mm) : w.cell? ⟨g, f + c, none⟩ = some (.int .i64 ((cntF at' f c : Nat) : Int)) := by
  obtain ⟨F, hF, h2⟩ := h
  rw [hF.cell hm, h2 c hc]
theorem Cnts.any {w : World} {g mm : Nat} {at' : List Int} {f q : Nat} (h : Cnts w g mm at' f q) {f' : Nat} : Cnts w g mm at' f' 0 := by
  obtain ⟨F, hF, _⟩ := h
  exact ⟨F, hF, fun c hc => by omega⟩
theorem Cnts.step {w : World} {g mm : Nat} {at' : List Int} {f q : Nat} (h : Cnts w g mm at' f q) : Cnts (w.setCell ⟨g, f + q, none⟩ (.int .i64 ((cntF at' f q : Nat) : Int))) g mm at' f (q + 1) := by
  obtain ⟨F, hF, h2⟩ := h
  refine ⟨_, hF.set _ _, fun c hc => ?_⟩
  by_cases e : c = q
  · subst e; simp
  · simp only [if_neg (show ¬ f + c = f + q by omega)]
    exact h2 c (by omega)

set_option maxRecDepth 100000 in
set_option maxHeartbeats 4000000 in
theorem cutsRight_any (aat afi acu : Option Addr) (n mm N cfi cc : Nat) (ps : List Pat) (w : World) (HML : Hid ((atTo ps n).length = mm)) (hn : n ≤ 1048576) (hmm : mm ≤ 4194304) (hat : Ints .i32 w aat (atTo ps n)) (hfi : Ints .i64 w afi (fiTo ps n))
    (hcu : Row w acu mm (fun i => .int .i64 (cutAt (atTo ps n) (fiTo ps n) (owTo ps n) i))) :
    Calls Try.prog 24 #[.slice aat mm N, .slice afi n cfi, .slice acu mm cc] w fun e w' => e = .returned (.bool true) ∧ Below w.heap.size w w' := by
  have hmk := make_run 33 3 _ 1 8 Try.underlying33 Try.info3 mm (by omega) (by omega)
  simp only [Nat.mul_one] at hmk
  go_enter Try.func24, Try.ntmps24
  go_wp2
  go_loopw [8] (fun ii wr => ∃ i : Nat, i ≤ n ∧ ii = .int .i64 i ∧ Below w.heap.size w wr ∧ Cnts wr w.heap.size mm (atTo ps n) 0 0) (fun ii _ => n - (intOf ii).toNat)
  case atStart =>
    obtain ⟨F, hF⟩ := zeros_row w (.int .i64 0) mm 3
    exact ⟨0, by omega, rfl, (Below.refl _ _).alloc (Nat.le_refl _) _, F, hF, fun c hc => by omega⟩
  case round =>
    obtain ⟨i, hi, rfl, hb, hcn0⟩ := hrel
    by_cases hlt : i < n
    · obtain ⟨F0, hF⟩ : ∃ F, startOf ps i = F := ⟨_, rfl⟩
      obtain ⟨E, hE⟩ : ∃ E, startOf ps (i + 1) = E := ⟨_, rfl⟩
      have hEF : E = F0 + (tokI ps i).length + 1 := by rw [← hF, ← hE]; exact startOf_succ ps i
      have hEm : E ≤ mm := by rw [← hE, ← HML.out]; exact atTo_mono ps (by omega)
      obtain ⟨b1, off1, rfl, hbl1, d1⟩ := Ints.get hfi (i := i) (v := (F0 : Int)) (by rw [fiTo_len]; exact hlt) (by rw [fiTo_at ps n i hlt, hF])
      have g1 := (hb.cell hbl1).trans d1
      have HF : Hid (startOf ps i = F0) := hF
      have HEE : Hid (startOf ps (i + 1) = E) := hE
      have hFE : F0 < E := by omega
      have hcn : Cnts wr w.heap.size mm (atTo ps n) F0 0 := hcn0.any
      have k1 : (i : Int) < (n : Int) := by omega
      clear hF hE hEF hcn0
      by_cases hi1 : i + 1 < n
      · obtain ⟨b2, off2, e3, hbl2, d2⟩ := Ints.get hfi (i := i + 1) (v := (E : Int)) (by rw [fiTo_len]; exact hi1) (by rw [fiTo_at ps n (i + 1) hi1, HEE.out])
        simp only [Option.some.injEq, Addr.mk.injEq, and_true] at e3
        obtain ⟨rfl, rfl⟩ := e3
        have g2 := (hb.cell hbl2).trans d2
        have k2 : (i : Int) + 1 < (n : Int) := by omega
        go_wp2
        clear g1 g2 d1 d2
        go_loopw [11, 12] (fun cn kk wr => ∃ q : Nat, F0 + q ≤ E ∧ cn = .int .i64 ((cntF (atTo ps n) F0 q : Nat) : Int) ∧ kk = .int .i64 ((F0 + q : Nat) : Int) ∧ Below w.heap.size w wr ∧ Cnts wr w.heap.size mm (atTo ps n) F0 q) (fun _ kk _ => E - (intOf kk).toNat)
        case atStart => exact ⟨0, by omega, rfl, rfl, hb, hcn⟩
        case round =>
          obtain ⟨q, hqE, rfl, rfl, hb2, hcn2⟩ := hrel
          have hcl := cntF_le (atTo ps n) F0 q
          by_cases hq : F0 + q < E
          · have hcnt := cut_count ps n i hlt q (by rw [HF.out, HEE.out]; exact hq)
            rw [HF.out] at hcnt
            obtain ⟨b3, off3, rfl, hbl3, d3⟩ := hcu (F0 + q) (by omega)
            obtain ⟨b4, off4, rfl, hbl4, d4⟩ := Ints.get hat (i := F0 + q) (v := iat (atTo ps n) (F0 + q)) (by rw [HML.out]; omega) rfl
            have g3 := (hb2.cell hbl3).trans d3
            have g4 := (hb2.cell hbl4).trans d4
            obtain ⟨u, x0⟩ := hcn2.cell (i := F0 + q) (by omega)
            have z0 := hcn2.frozen (F0 + q)
            have hrow' := hcn2.step
            have hrow0 := hcn2
            have HCN : Hid (cntF (atTo ps n) F0 (q + 1) = cntF (atTo ps n) F0 q + (if isStop (iat (atTo ps n) (F0 + q)) = true then 1 else 0)) := rfl
            have l1 : (F0 : Int) + (q : Int) < (E : Int) := by omega
            have l2 : (F0 : Int) + (q : Int) < (mm : Int) := by omega
            have hb3w : b3 < w.heap.size := hbl3
            have hb4w : b4 < w.heap.size := hbl4
            have hsz2 := hb2.size
            rcases hcnt with ⟨e1, e2⟩ | ⟨c, hc1, e1, e2, e3⟩
            · replace g3 : wr.cell? ⟨b3, off3 + (F0 + q), none⟩ = some (.int .i64 ((F0 : Int) - 1)) := by rw [← e1]; exact g3
              have HE2 : Hid (cntF (atTo ps n) F0 q = 0) := e2
              have t1 : decide ((F0 : Int) - 1 < (F0 : Int) - 1) = false := decide_eq_false (by omega)
              have t2 : decide ((F0 : Int) + (q : Int) ≤ (F0 : Int) - 1) = false := decide_eq_false (by omega)
              have t3 : ((F0 : Int) - 1 == (F0 : Int) - 1) = true := by simp
              have t4 : (((cntF (atTo ps n) F0 q : Nat) : Int) != 0) = false := by rw [e2]; rfl
              clear e1 e2 hcu hat hfi hcn2 d3 d4
              cases hsk : isStop (iat (atTo ps n) (F0 + q)) with
              | true =>
                have HSK : Hid (isStop (iat (atTo ps n) (F0 + q)) = true) := hsk
                clear hsk
                go_wp2_with fail
                refine (isStop_any (iat (atTo ps n) (F0 + q)) _).mono ?_
                rintro e w7 ⟨rfl, hw7⟩
                subst hw7
                rw [HSK.out]
                go_wp2
                go_roundw
                case rel => exact ⟨q + 1, by omega, by rw [HCN.out, if_pos HSK.out]; go_num, by go_num, hb2.setCell (Nat.le_refl _) _, hrow'⟩
                case measure => simp [intOf]; omega
              | false =>
                have HSK : Hid (isStop (iat (atTo ps n) (F0 + q)) = false) := hsk
                have HSK2 : Hid (¬ isStop (iat (atTo ps n) (F0 + q)) = true) := by show ¬ _; rw [hsk]; simp
                clear hsk
                go_wp2_with fail
                refine (isStop_any (iat (atTo ps n) (F0 + q)) _).mono ?_
                rintro e w7 ⟨rfl, hw7⟩
                subst hw7
                rw [HSK.out]
                go_wp2
                go_roundw
                case rel => exact ⟨q + 1, by omega, by rw [HCN.out, if_neg HSK2.out]; go_num, by go_num, hb2.setCell (Nat.le_refl _) _, hrow'⟩
                case measure => simp [intOf]; omega
            · obtain ⟨C, hC⟩ : ∃ C, F0 + c = C := ⟨_, rfl⟩
              rw [hC] at e1 e2
              obtain ⟨b5, off5, ee, hbl5, d5⟩ := Ints.get hat (i := C) (v := iat (atTo ps n) C) (by rw [HML.out]; omega) rfl
              simp only [Option.some.injEq, Addr.mk.injEq, and_true] at ee
              obtain ⟨rfl, rfl⟩ := ee
              have g5 := (hb2.cell hbl5).trans d5
              have g6 := hcn2.at c hc1 (by omega)
              rw [hC] at g6
              replace g3 : wr.cell? ⟨b3, off3 + (F0 + q), none⟩ = some (.int .i64 (C : Int)) := by rw [← e1]; exact g3
              have hCq : C < F0 + q := by omega
              have hFC : F0 ≤ C := by omega
              have HE2 : Hid (isStop (iat (atTo ps n) C) = true) := e2
              have hcc := cntF_le (atTo ps n) F0 c
              have t1 : decide ((C : Int) < (F0 : Int) - 1) = false := decide_eq_false (by omega)
              have t2 : decide ((F0 : Int) + (q : Int) ≤ (C : Int)) = false := decide_eq_false (by omega)
              have t3 : ((C : Int) == (F0 : Int) - 1) = false := beq_eq_false_iff_ne.2 (by omega)
              have t4 : (((cntF (atTo ps n) F0 q : Nat) : Int) != ((cntF (atTo ps n) F0 c : Nat) : Int) + 1) = false := by rw [e3]; simp
              have l5 : (C : Int) < (mm : Int) := by omega
              clear e1 e2 e3 hcu hat hfi hcn2 d3 d4 d5 hC
              go_wp2_with fail
              refine (isStop_any (iat (atTo ps n) C) _).mono ?_
              rintro e w6 ⟨rfl, hw6⟩
              subst hw6
              rw [HE2.out]
              cases hsk : isStop (iat (atTo ps n) (F0 + q)) with
              | true =>
                have HSK : Hid (isStop (iat (atTo ps n) (F0 + q)) = true) := hsk
                clear hsk
                go_wp2_with fail
                refine (isStop_any (iat (atTo ps n) (F0 + q)) _).mono ?_
                rintro e w7 ⟨rfl, hw7⟩
                subst hw7
                rw [HSK.out]
                go_wp2
                go_roundw
                case rel => exact ⟨q + 1, by omega, by rw [HCN.out, if_pos HSK.out]; go_num, by go_num, hb2.setCell (Nat.le_refl _) _, hrow'⟩
                case measure => simp [intOf]; omega
              | false =>
                have HSK : Hid (isStop (iat (atTo ps n) (F0 + q)) = false) := hsk
                have HSK2 : Hid (¬ isStop (iat (atTo ps n) (F0 + q)) = true) := by show ¬ _; rw [hsk]; simp
                clear hsk
                go_wp2_with fail
                refine (isStop_any (iat (atTo ps n) (F0 + q)) _).mono ?_
                rintro e w7 ⟨rfl, hw7⟩
                subst hw7
                rw [HSK.out]
                go_wp2
                go_roundw
                case rel => exact ⟨q + 1, by omega, by rw [HCN.out, if_neg HSK2.out]; go_num, by go_num, hb2.setCell (Nat.le_refl _) _, hrow'⟩
                case measure => simp [intOf]; omega
          · have l1 : ¬ (F0 : Int) + (q : Int) < (E : Int) := by omega
            clear hcu hat hfi
            go_wp2
            go_roundw
            case rel => exact ⟨i + 1, by omega, by go_num, hb2, hcn2.any⟩
            case measure => simp [intOf]; omega
      · have k2 : ¬ (i : Int) + 1 < (n : Int) := by omega
        obtain rfl : E = mm := by rw [← HEE.out, ← HML.out]; rw [show i + 1 = n by omega]; rfl
        go_wp2
        clear g1 d1
        go_loopw [11, 12] (fun cn kk wr => ∃ q : Nat, F0 + q ≤ E ∧ cn = .int .i64 ((cntF (atTo ps n) F0 q : Nat) : Int) ∧ kk = .int .i64 ((F0 + q : Nat) : Int) ∧ Below w.heap.size w wr ∧ Cnts wr w.heap.size E (atTo ps n) F0 q) (fun _ kk _ => E - (intOf kk).toNat)
        case atStart => exact ⟨0, by omega, rfl, rfl, hb, hcn⟩
        case round =>
          obtain ⟨q, hqE, rfl, rfl, hb2, hcn2⟩ := hrel
          have hcl := cntF_le (atTo ps n) F0 q
          by_cases hq : F0 + q < E
          · have hcnt := cut_count ps n i hlt q (by rw [HF.out, HEE.out]; exact hq)
            rw [HF.out] at hcnt
            obtain ⟨b3, off3, rfl, hbl3, d3⟩ := hcu (F0 + q) (by omega)
            obtain ⟨b4, off4, rfl, hbl4, d4⟩ := Ints.get hat (i := F0 + q) (v := iat (atTo ps n) (F0 + q)) (by rw [HML.out]; omega) rfl
            have g3 := (hb2.cell hbl3).trans d3
            have g4 := (hb2.cell hbl4).trans d4
            obtain ⟨u, x0⟩ := hcn2.cell (i := F0 + q) (by omega)
            have z0 := hcn2.frozen (F0 + q)
            have hrow' := hcn2.step
            have hrow0 := hcn2
            have HCN : Hid (cntF (atTo ps n) F0 (q + 1) = cntF (atTo ps n) F0 q + (if isStop (iat (atTo ps n) (F0 + q)) = true then 1 else 0)) := rfl
            have l1 : (F0 : Int) + (q : Int) < (E : Int) := by omega
            have l2 : (F0 : Int) + (q : Int) < (E : Int) := by omega
            have hb3w : b3 < w.heap.size := hbl3
            have hb4w : b4 < w.heap.size := hbl4
            have hsz2 := hb2.size
            rcases hcnt with ⟨e1, e2⟩ | ⟨c, hc1, e1, e2, e3⟩
            · replace g3 : wr.cell? ⟨b3, off3 + (F0 + q), none⟩ = some (.int .i64 ((F0 : Int) - 1)) := by rw [← e1]; exact g3
              have HE2 : Hid (cntF (atTo ps n) F0 q = 0) := e2
              have t1 : decide ((F0 : Int) - 1 < (F0 : Int) - 1) = false := decide_eq_false (by omega)
              have t2 : decide ((F0 : Int) + (q : Int) ≤ (F0 : Int) - 1) = false := decide_eq_false (by omega)
              have t3 : ((F0 : Int) - 1 == (F0 : Int) - 1) = true := by simp
              have t4 : (((cntF (atTo ps n) F0 q : Nat) : Int) != 0) = false := by rw [e2]; rfl
              clear e1 e2 hcu hat hfi hcn2 d3 d4
              cases hsk : isStop (iat (atTo ps n) (F0 + q)) with
              | true =>
                have HSK : Hid (isStop (iat (atTo ps n) (F0 + q)) = true) := hsk
                clear hsk
                go_wp2_with fail
                refine (isStop_any (iat (atTo ps n) (F0 + q)) _).mono ?_
                rintro e w7 ⟨rfl, hw7⟩
                subst hw7
                rw [HSK.out]
                go_wp2
                go_roundw
                case rel => exact ⟨q + 1, by omega, by rw [HCN.out, if_pos HSK.out]; go_num, by go_num, hb2.setCell (Nat.le_refl _) _, hrow'⟩
                case measure => simp [intOf]; omega
              | false =>
                have HSK : Hid (isStop (iat (atTo ps n) (F0 + q)) = false) := hsk
                have HSK2 : Hid (¬ isStop (iat (atTo ps n) (F0 + q)) = true) := by show ¬ _; rw [hsk]; simp
                clear hsk
                go_wp2_with fail
                refine (isStop_any (iat (atTo ps n) (F0 + q)) _).mono ?_
                rintro e w7 ⟨rfl, hw7⟩
                subst hw7
                rw [HSK.out]
                go_wp2
                go_roundw
                case rel => exact ⟨q + 1, by omega, by rw [HCN.out, if_neg HSK2.out]; go_num, by go_num, hb2.setCell (Nat.le_refl _) _, hrow'⟩
                case measure => simp [intOf]; omega
            · obtain ⟨C, hC⟩ : ∃ C, F0 + c = C := ⟨_, rfl⟩
              rw [hC] at e1 e2
              obtain ⟨b5, off5, ee, hbl5, d5⟩ := Ints.get hat (i := C) (v := iat (atTo ps n) C) (by rw [HML.out]; omega) rfl
              simp only [Option.some.injEq, Addr.mk.injEq, and_true] at ee
              obtain ⟨rfl, rfl⟩ := ee
              have g5 := (hb2.cell hbl5).trans d5
              have g6 := hcn2.at c hc1 (by omega)
              rw [hC] at g6
              replace g3 : wr.cell? ⟨b3, off3 + (F0 + q), none⟩ = some (.int .i64 (C : Int)) := by rw [← e1]; exact g3
              have hCq : C < F0 + q := by omega
              have hFC : F0 ≤ C := by omega
              have HE2 : Hid (isStop (iat (atTo ps n) C) = true) := e2
              have hcc := cntF_le (atTo ps n) F0 c
              have t1 : decide ((C : Int) < (F0 : Int) - 1) = false := decide_eq_false (by omega)
              have t2 : decide ((F0 : Int) + (q : Int) ≤ (C : Int)) = false := decide_eq_false (by omega)
              have t3 : ((C : Int) == (F0 : Int) - 1) = false := beq_eq_false_iff_ne.2 (by omega)
              have t4 : (((cntF (atTo ps n) F0 q : Nat) : Int) != ((cntF (atTo ps n) F0 c : Nat) : Int) + 1) = false := by rw [e3]; simp
              have l5 : (C : Int) < (E : Int) := by omega
              clear e1 e2 e3 hcu hat hfi hcn2 d3 d4 d5 hC
              go_wp2_with fail
              refine (isStop_any (iat (atTo ps n) C) _).mono ?_
              rintro e w6 ⟨rfl, hw6⟩
              subst hw6
              rw [HE2.out]
              cases hsk : isStop (iat (atTo ps n) (F0 + q)) with
              | true =>
                have HSK : Hid (isStop (iat (atTo ps n) (F0 + q)) = true) := hsk
                clear hsk
                go_wp2_with fail
                refine (isStop_any (iat (atTo ps n) (F0 + q)) _).mono ?_
                rintro e w7 ⟨rfl, hw7⟩
                subst hw7
                rw [HSK.out]
                go_wp2
                go_roundw
                case rel => exact ⟨q + 1, by omega, by rw [HCN.out, if_pos HSK.out]; go_num, by go_num, hb2.setCell (Nat.le_refl _) _, hrow'⟩
                case measure => simp [intOf]; omega
              | false =>
                have HSK : Hid (isStop (iat (atTo ps n) (F0 + q)) = false) := hsk
                have HSK2 : Hid (¬ isStop (iat (atTo ps n) (F0 + q)) = true) := by show ¬ _; rw [hsk]; simp
                clear hsk
                go_wp2_with fail
                refine (isStop_any (iat (atTo ps n) (F0 + q)) _).mono ?_
                rintro e w7 ⟨rfl, hw7⟩
                subst hw7
                rw [HSK.out]
                go_wp2
                go_roundw
                case rel => exact ⟨q + 1, by omega, by rw [HCN.out, if_neg HSK2.out]; go_num, by go_num, hb2.setCell (Nat.le_refl _) _, hrow'⟩
                case measure => simp [intOf]; omega
          · have l1 : ¬ (F0 : Int) + (q : Int) < (E : Int) := by omega
            clear hcu hat hfi
            go_wp2
            go_roundw
            case rel => exact ⟨i + 1, by omega, by go_num, hb2, hcn2.any⟩
            case measure => simp [intOf]; omega
    · have k1 : ¬ (i : Int) < (n : Int) := by omega
      clear hcu hat hfi
      go_wp2
      go_ret
      exact ⟨rfl, hb⟩

end Go.Proofs.Qxb6601200a
