import Derived.Test.Qxb6601200aPrSt
import Derived.Deep.DeepCutAuto
import Derived.Deep.RegionHeld3
import Derived.Deep.RegionLaw
import Derived.Deep.CutBlock
import Derived.BigRegion
import Derived.BigQuiet
set_option linter.unusedSimpArgs false
set_option linter.unusedVariables false
namespace Go.Proofs.Qxb6601200a
open Go.RowKit

def SF (E : PEnv) (L : List Nat) (k g : Nat) : Int := sof (whTo E.tk E.ow E.gr L k g)
def WF (E : PEnv) (L : List Nat) (k g : Nat) : Int := wof (whTo E.tk E.ow E.gr L k g)
def PruneEnd (E : PEnv) (L : List Nat) (e : Ending) (W : World) : Prop :=
  ∃ A, e = .returned (.slice (some ⟨E.gp, 0, none⟩) (keptTo E.tk E.ow E.gr E.cu L L.length).length E.m) ∧ Kp L E.m (keptTo E.tk E.ow E.gr E.cu L L.length) E.m A ∧ RowN W E.gp 3 E.m E.m (fun i => .int .i64 ((A i : Nat) : Int))

def KT (E : PEnv) (L : List Nat) (lo : Nat) : List Nat := keptTo E.tk E.ow E.gr E.cu L lo
def Bnd (E : PEnv) (L : List Nat) (lo : Nat) : Prop := ∀ a b, a < lo → lo ≤ b → b < L.length → E.ow (nat L a) ≠ E.ow (nat L b)
theorem pop_app {T S : List Nat} {c : Int} {k3 : Nat} (hs : Incs S) (h1 : T.length ≤ k3) (h2 : k3 ≤ (T ++ S).length) (h3 : ∀ q, k3 ≤ q → q < (T ++ S).length → c < (nat (T ++ S) q : Int)) (h4 : k3 = T.length ∨ (nat (T ++ S) (k3 - 1) : Int) ≤ c) :
    (T ++ S).take k3 = T ++ S.filter (fun x : Nat => decide ((x : Int) ≤ c)) := by
  obtain ⟨j, rfl⟩ : ∃ j, k3 = T.length + j := ⟨k3 - T.length, by omega⟩
  simp only [List.length_append] at h2 h3
  rw [pop_filter hs (j := j) (by omega) (fun q hq1 hq2 => by
    have := h3 (T.length + q) (by omega) (by omega)
    rwa [nat_app_ge] at this) ?_]
  · simp only [List.take_append, List.take_of_length_le (show T.length ≤ T.length + j by omega), Nat.add_sub_cancel_left]
  · rcases h4 with h4 | h4
    · left; omega
    · by_cases e : j = 0
      · left; exact e
      · right
        rw [show T.length + j - 1 = T.length + (j - 1) by omega, nat_app_ge] at h4
        exact h4
def lenOf : Value → Nat
  | .slice _ n _ => n
  | _ => 0

set_option maxRecDepth 100000 in
set_option maxHeartbeats 4000000 in
theorem prune_row (E : PEnv) (L : List Nat) (w : World) (bd : PBd E) (HL : Hid (L.length = E.m)) (hinc : Incs L) (hlt : ∀ k, k < E.m → nat L k < E.mm) (st0 : PSt E w (fun _ => 0) (fun _ => 0) (nat L) w) :
    Calls Try.prog 40 #[.pointer (some ⟨E.gA, 0, none⟩), .slice (some ⟨E.gp, 0, none⟩) E.m E.m] w fun e w' => PruneEnd E L e w' ∧ Chg E.gse E.gwh E.gp w w' := by
  have hm := bd.m
  have hmm := bd.mm
  have hmg := bd.mg
  have hgc := bd.gc
  have hng := bd.nmg
  have HBD : Hid (PBd E) := bd
  have HINC : Hid (Incs L) := hinc
  have HLT : Hid (∀ k, k < E.m → nat L k < E.mm) := hlt
  clear bd hinc hlt
  go_enter Try.func40, Try.ntmps40
  go_wp2
  go_loopw [17] (fun ii wr => ∃ k : Nat, k ≤ E.m ∧ ii = .int .i64 k ∧ PSt E w (SF E L k) (WF E L k) (nat L) wr) (fun ii _ => E.m - (intOf ii).toNat)
  case atStart => exact ⟨0, by omega, rfl, st0⟩
  case round =>
    clear st0
    obtain ⟨k, hk, rfl, st⟩ := hrel
    by_cases hlt : k < E.m
    · obtain ⟨x, hx⟩ : ∃ x, nat L k = x := ⟨_, rfl⟩
      have hxm : x < E.mm := by rw [← hx]; exact HLT.out k hlt
      obtain ⟨p, hp⟩ : ∃ p, E.ow x = p := ⟨_, rfl⟩
      have hpn : p < E.n := by rw [← hp]; exact HBD.out.own x hxm
      obtain ⟨g, hg⟩ : ∃ g, E.gr p = g := ⟨_, rfl⟩
      have hgg : g < E.gc := by rw [← hg]; exact HBD.out.grp p hpn
      have HX : Hid (nat L k = x) := hx
      have HP : Hid (E.ow x = p) := hp
      have HG : Hid (E.gr p = g) := hg
      have q0 : wr.cell? ⟨E.gp, k, none⟩ = some (.int .i64 (x : Int)) := by rw [← hx]; exact st.po.cellAt hlt hlt
      have q1 : wr.cell? ⟨E.gow, x, none⟩ = some (.int .i64 (p : Int)) := by rw [← hp]; exact st.pin.ow x hxm
      obtain ⟨bg, og, eg, fg, q2⟩ := st.pin.gr p hpn
      rw [hg] at q2
      have q3 := st.pin.at' x hxm
      have q4 : wr.cell? ⟨E.gse, g, none⟩ = some (.int .u32 (SF E L k g)) := st.se.cellAt hgg hgg
      obtain ⟨z4, q5⟩ := st.wh.cell hgg
      have z5 := st.se.frozen g
      have z6 := st.wh.frozen g
      have c0 := st.pin.c0
      have c1 := st.pin.c1
      have c3 := st.pin.c3
      have c8 := st.pin.c8
      have c9 := st.pin.c9
      have c10 := st.pin.c10
      rw [eg] at c3
      have l1 : (k : Int) < (E.m : Int) := by omega
      have l2 : (x : Int) < (E.mm : Int) := by omega
      have l3 : (p : Int) < (E.mg : Int) := by omega
      have l4 : (g : Int) < (E.gc : Int) := by omega
      clear hx hp hg
      go_upto_region 4 with (fail)
      go_quiet (fail)
      cases t2 : (E.tk x == -2) with
      | false =>
        have HN : Hid (cstar E.tk x = false) := by show _ = _; unfold cstar; rw [t2]; rfl
        go_upto_region 5 with (fail)
        go_quiet (fail)
        go_wp2
        go_roundw
        case rel => exact ⟨k + 1, by omega, by go_num, ((st.drewN HBD.out _).congr (fun g => by unfold SF; rw [wh_miss (by rw [HX.out]; exact HN.out)]) (fun g => by unfold WF; rw [wh_miss (by rw [HX.out]; exact HN.out)]))⟩
        case measure => simp [intOf]; omega
      | true =>
        have hx1 := HBD.out.last x hxm (beq_iff_eq.1 t2)
        have q6 := st.pin.at' (x + 1) hx1
        have l5 : (x : Int) + 1 < (E.mm : Int) := by omega
        cases t1 : (E.tk (x + 1) == -1) with
        | false =>
          have HN : Hid (cstar E.tk x = false) := by show _ = _; unfold cstar; rw [t2, t1]; rfl
          go_upto_region 5 with (fail)
          go_quiet (fail)
          go_wp2
          go_roundw
          case rel => exact ⟨k + 1, by omega, by go_num, ((st.drewN HBD.out _).congr (fun g => by unfold SF; rw [wh_miss (by rw [HX.out]; exact HN.out)]) (fun g => by unfold WF; rw [wh_miss (by rw [HX.out]; exact HN.out)]))⟩
          case measure => simp [intOf]; omega
        | true =>
          have HY : Hid (cstar E.tk x = true) := by show _ = _; unfold cstar; rw [t2, t1]; rfl
          cases hw : whTo E.tk E.ow E.gr L k g with
          | some q =>
            have HW : Hid (whTo E.tk E.ow E.gr L k (E.gr (E.ow (nat L k))) = some q) := by show _ = _; rw [HX.out, HP.out, HG.out]; exact hw
            replace q4 : wr.cell? ⟨E.gse, g, none⟩ = some (.int .u32 1) := by rw [q4]; unfold SF; rw [hw]; rfl
            clear hw
            go_upto_region 5 with (fail)
            go_quiet (fail)
            go_wp2
            go_roundw
            case rel => exact ⟨k + 1, by omega, by go_num, ((st.drewN HBD.out _).congr (fun g => by unfold SF; rw [wh_set HW.out]) (fun g => by unfold WF; rw [wh_set HW.out]))⟩
            case measure => simp [intOf]; omega
          | none =>
            have HW : Hid (whTo E.tk E.ow E.gr L k (E.gr (E.ow (nat L k))) = none) := by show _ = _; rw [HX.out, HP.out, HG.out]; exact hw
            replace q4 : wr.cell? ⟨E.gse, g, none⟩ = some (.int .u32 0) := by rw [q4]; unfold SF; rw [hw]; rfl
            clear hw
            go_upto_region 5 with (fail)
            go_quiet (fail)
            go_upto_region 6 with (fail)
            go_cut [] (fun wx => PSt E w (updI (SF E L k) g 1) (WF E L k) (nat L) wx)
            case first =>
              go_region
              all_goals
                go_wp2
                go_meet
                case rel => first | exact ((st.drewN HBD.out _).setSe HBD.out g 1).drewN HBD.out _ | exact ((st.setSe HBD.out g 1).drewN HBD.out _)
            case rest =>
              clear q0 q1 q2 q3 q4 q5 q6 z4 z5 z6 c0 c1 c3 c8 c9 c10
              have q1 : wc.cell? ⟨E.gow, x, none⟩ = some (.int .i64 (p : Int)) := by rw [← HP.out]; exact hcut.pin.ow x hxm
              obtain ⟨z4, q5⟩ := hcut.wh.cell hgg
              have z6 := hcut.wh.frozen g
              have c1 := hcut.pin.c1
              have c9 := hcut.pin.c9
              go_upto_region 7 with (fail)
              go_region
              all_goals
                go_wp2
                go_roundw
                case rel => exact ⟨k + 1, by omega, by go_num, PSt.congr (S := updI (SF E L k) g 1) (Wf := updI (WF E L k) g (p : Int)) (by first | exact ((hcut.drewN HBD.out _).setWh HBD.out g _).drewN HBD.out _ | exact ((hcut.setWh HBD.out g _).drewN HBD.out _)) (fun g' => by
                    unfold SF updI
                    rw [wh_new (by rw [HX.out]; exact HY.out) HW.out, HX.out, HP.out, HG.out]
                    split <;> rfl) (fun g' => by
                    unfold WF updI
                    rw [wh_new (by rw [HX.out]; exact HY.out) HW.out, HX.out, HP.out, HG.out]
                    split <;> rfl)⟩
                case measure => simp [intOf]; omega
    · obtain rfl : k = E.m := by omega
      have l1 : ¬ (E.m : Int) < (E.m : Int) := by omega
      go_wp2
      go_loopw [8, 9] (fun s8 s9 wr => ∃ (lo kl : Nat) (A : Nat → Nat), lo ≤ E.m ∧ s9 = .int .i64 lo ∧ s8 = .slice (some ⟨E.gp, 0, none⟩) kl E.m ∧ (KT E L lo).length = kl ∧ Bnd E L lo ∧ Kp L E.m (KT E L lo) lo A ∧ PSt E w (SF E L E.m) (WF E L E.m) A wr) (fun _ s9 _ => E.m - (intOf s9).toNat)
      case atStart => exact ⟨0, 0, nat L, by omega, rfl, rfl, by simp [KT, keptTo], fun a b h => by omega, by simpa [KT, keptTo] using Kp.start L E.m, st⟩
      case round =>
        clear st
        obtain ⟨lo, kl, A0, hlo, rfl, rfl, hkl, hbnd, hkp, st⟩ := hrel
        have HKL : Hid ((KT E L lo).length = kl) := hkl
        have hklo : kl ≤ lo := by rw [← hkl]; exact hkp.len
        have HBN : Hid (Bnd E L lo) := hbnd
        have HKP : Hid (Kp L E.m (KT E L lo) lo A0) := hkp
        clear hkl hbnd hkp
        by_cases hlm : lo < E.m
        · obtain ⟨x0, hx0⟩ : ∃ x, nat L lo = x := ⟨_, rfl⟩
          have hxm : x0 < E.mm := by rw [← hx0]; exact HLT.out lo hlm
          obtain ⟨p, hp⟩ : ∃ p, E.ow x0 = p := ⟨_, rfl⟩
          have hpn : p < E.n := by rw [← hp]; exact HBD.out.own x0 hxm
          have HX : Hid (nat L lo = x0) := hx0
          have HP : Hid (E.ow x0 = p) := hp
          have q0 : wr.cell? ⟨E.gp, lo, none⟩ = some (.int .i64 (x0 : Int)) := by rw [← hx0, ← HKP.out.high lo (Nat.le_refl _) hlm]; exact st.po.cellAt hlm hlm
          have q1 : wr.cell? ⟨E.gow, x0, none⟩ = some (.int .i64 (p : Int)) := by rw [← hp]; exact st.pin.ow x0 hxm
          have c1 := st.pin.c1
          have l2 : (lo : Int) < (E.m : Int) := by omega
          have l3 : (x0 : Int) < (E.mm : Int) := by omega
          clear hx0 hp
          go_upto_region 12 with (fail)
          go_quiet (fail)
          clear q0 q1 c1
          go_wp2
          go_loopw [8, 12] (fun s8 s12 wr => ∃ (j kl2 : Nat) (A : Nat → Nat), lo + j ≤ E.m ∧ s12 = .int .i64 ((lo + j : Nat) : Int) ∧ s8 = .slice (some ⟨E.gp, 0, none⟩) kl2 E.m ∧ (KT E L lo ++ stk E.tk E.cu (seg L lo j)).length = kl2 ∧ (∀ a, lo ≤ a → a < lo + j → E.ow (nat L a) = p) ∧ Kp L E.m (KT E L lo ++ stk E.tk E.cu (seg L lo j)) (lo + j) A ∧ PSt E w (SF E L E.m) (WF E L E.m) A wr) (fun _ s12 _ => E.m - (intOf s12).toNat)
          case atStart => exact ⟨0, kl, A0, by omega, rfl, rfl, by simp [seg_zero, stk, HKL.out], fun a h1 h2 => by omega, by simpa [seg_zero, stk] using HKP.out, st.drewN HBD.out _⟩
          case round =>
            clear st
            obtain ⟨j, kl2, A, hjm, rfl, rfl, hkl2, hsg, hkp2, st⟩ := hrel
            have HK2 : Hid ((KT E L lo ++ stk E.tk E.cu (seg L lo j)).length = kl2) := hkl2
            have HSG : Hid (∀ a, lo ≤ a → a < lo + j → E.ow (nat L a) = p) := hsg
            have HKP2 : Hid (Kp L E.m (KT E L lo ++ stk E.tk E.cu (seg L lo j)) (lo + j) A) := hkp2
            have hk2 : kl2 ≤ lo + j := by rw [← hkl2]; exact hkp2.len
            have hk1 : kl ≤ kl2 := by rw [← hkl2, List.length_append, HKL.out]; omega
            clear hkl2 hsg hkp2
            by_cases hjl : lo + j < E.m
            · obtain ⟨x, hx⟩ : ∃ x, nat L (lo + j) = x := ⟨_, rfl⟩
              have hxm2 : x < E.mm := by rw [← hx]; exact HLT.out _ hjl
              obtain ⟨q, hq⟩ : ∃ q, E.ow x = q := ⟨_, rfl⟩
              have HX2 : Hid (nat L (lo + j) = x) := hx
              have HQ2 : Hid (E.ow x = q) := hq
              have q0 : wr.cell? ⟨E.gp, lo + j, none⟩ = some (.int .i64 (x : Int)) := by rw [← hx, ← HKP2.out.high (lo + j) (Nat.le_refl _) hjl]; exact st.po.cellAt hjl hjl
              have q1 : wr.cell? ⟨E.gow, x, none⟩ = some (.int .i64 (q : Int)) := by rw [← hq]; exact st.pin.ow x hxm2
              have q3 := st.pin.at' x hxm2
              have c0 := st.pin.c0
              have c1 := st.pin.c1
              have m2 : (lo : Int) + (j : Int) < (E.m : Int) := by omega
              have m3 : (x : Int) < (E.mm : Int) := by omega
              have m4 : (kl : Int) ≤ (E.m : Int) := by omega
              clear hx hq
              cases hqp : ((q : Int) == (p : Int)) with
              | true =>
                obtain rfl : q = p := by have := beq_iff_eq.1 hqp; omega
                go_upto_region 14 with (fail)
                go_quiet (fail)
                go_upto_region 17 with (fail)
                refine abs_world (p := fun W => Code.wp Try.prog _ _ _ W) (q := PSt E w (SF E L E.m) (WF E L E.m) A) (st.drewN HBD.out _) ?_
                clear st q0 q1 q3 c0 c1
                rintro W1 st1
                have c0 := st1.pin.c0
                have q3 := st1.pin.at' x hxm2
                have HSL : Hid (∀ y ∈ seg L lo j, y < x) := by
                  intro y hy
                  obtain ⟨a, h1, h2, h3, rfl⟩ := seg_mem hy
                  rw [← HX2.out]; exact HINC.out a (lo + j) h2 (by rw [HL.out]; exact hjl)
                have HN0 : Hid (KT E L lo ++ stk E.tk E.cu (seg L lo (j + 1)) = KT E L lo ++ (stk E.tk E.cu (seg L lo j)).filter (cond E.tk E.cu x) ++ [x]) := by
                  show _ = _
                  rw [seg_snoc (by rw [HL.out]; exact hjl), HX2.out, stk_snoc HSL.out, List.append_assoc]
                cases t2 : (E.tk x == -2) with
                | true =>
                  have HNX : Hid (KT E L lo ++ stk E.tk E.cu (seg L lo (j + 1)) = KT E L lo ++ [x]) := by
                    show _ = _; rw [HN0.out, cond_star t2, List.append_nil]
                  have HLN : Hid ((KT E L lo).length = kl) := HKL
                  have HKN : Hid (Kp L E.m (KT E L lo) (lo + j) A) := by
                    have := HKP2.out.take kl
                    rw [List.take_append_of_le_length (by rw [HKL.out]; exact Nat.le_refl _), ← HKL.out, List.take_length] at this
                    exact this
                  have HRW : RowN W1 E.gp 3 E.m kl (fun i => .int .i64 ((A i : Nat) : Int)) := st1.po.less (by omega)
                  go_wp2_with (at_builtin; refine append_row rfl _ _ 33 rfl Try.underlying33 Try.info3 (by exact HRW.alloc _) (by simp [Act.eval, Act.put]) (by omega) W1.heap.size (.int .i64 (x : Int)) (by simp [Act.eval, Act.put]) (by exact heap_alloc_new W1 _) rfl ?_)
                  go_roundw
                  case rel =>
                    have hpush := HKN.out.push hjl
                    rw [HX2.out, HLN.out] at hpush
                    refine ⟨j + 1, kl + 1, upd A kl x, by omega, by go_num, by first | rfl | trivial, ?_, ?_, ?_, ?_⟩
                    · rw [HNX.out, List.length_append, HLN.out]; rfl
                    · intro a h1 h2
                      by_cases e : a = lo + j
                      · subst e; rw [HX2.out, HQ2.out]
                      · exact HSG.out a h1 (by omega)
                    · rw [HNX.out]; exact hpush
                    · exact (st1.alloc HBD.out _).setPo HBD.out _ _
                  case measure => simp [intOf]; omega
                | false =>
                  cases t5 : (E.tk x == -5) with
                  | false =>
                    have HNX : Hid (KT E L lo ++ stk E.tk E.cu (seg L lo (j + 1)) = KT E L lo ++ stk E.tk E.cu (seg L lo j) ++ [x]) := by
                      show _ = _; rw [HN0.out, cond_other t2 t5]
                    have HLN : Hid ((KT E L lo ++ stk E.tk E.cu (seg L lo j)).length = kl2) := HK2
                    have HRW : RowN W1 E.gp 3 E.m kl2 (fun i => .int .i64 ((A i : Nat) : Int)) := st1.po.less (by omega)
                    go_wp2_with (at_builtin; refine append_row rfl _ _ 33 rfl Try.underlying33 Try.info3 (by exact HRW.alloc _) (by simp [Act.eval, Act.put]) (by omega) W1.heap.size (.int .i64 (x : Int)) (by simp [Act.eval, Act.put]) (by exact heap_alloc_new W1 _) rfl ?_)
                    go_roundw
                    case rel =>
                      have hpush := HKP2.out.push hjl
                      rw [HX2.out, HLN.out] at hpush
                      refine ⟨j + 1, kl2 + 1, upd A kl2 x, by omega, by go_num, by first | rfl | trivial, ?_, ?_, ?_, ?_⟩
                      · rw [HNX.out, List.length_append, HLN.out]; rfl
                      · intro a h1 h2
                        by_cases e : a = lo + j
                        · subst e; rw [HX2.out, HQ2.out]
                        · exact HSG.out a h1 (by omega)
                      · rw [HNX.out]; exact hpush
                      · exact (st1.alloc HBD.out _).setPo HBD.out _ _
                    case measure => simp [intOf]; omega
                  | true =>
                    obtain ⟨hclm, bc, oc, ec, fc, qc⟩ := st1.pin.cu x hxm2 (beq_iff_eq.1 t5)
                    clear fc qc
                    obtain ⟨c, hc⟩ : ∃ c, E.cu x = c := ⟨_, rfl⟩
                    have HC : Hid (E.cu x = c) := hc
                    clear hc
                    go_wp2
                    go_loopw [8] (fun s8 wx => ∃ kl3 : Nat, s8 = .slice (some ⟨E.gp, 0, none⟩) kl3 E.m ∧ kl ≤ kl3 ∧ kl3 ≤ kl2 ∧ (∀ q, kl3 ≤ q → q < kl2 → c < (nat (KT E L lo ++ stk E.tk E.cu (seg L lo j)) q : Int)) ∧ PSt E w (SF E L E.m) (WF E L E.m) A wx) (fun s8 _ => lenOf s8)
                    case atStart => exact ⟨kl2, rfl, hk1, Nat.le_refl _, fun q h1 h2 => by omega, st1⟩
                    case round =>
                      clear c0 q3 st1
                      obtain ⟨kl3, rfl, h31, h32, hgt, st3⟩ := hrel
                      have HGT : Hid (∀ q, kl3 ≤ q → q < kl2 → c < (nat (KT E L lo ++ stk E.tk E.cu (seg L lo j)) q : Int)) := hgt
                      clear hgt
                      by_cases hpop : kl < kl3
                      · obtain ⟨d, rfl⟩ : ∃ d, kl3 = d + 1 := ⟨kl3 - 1, by omega⟩
                        obtain ⟨v, hv⟩ : ∃ v, nat (KT E L lo ++ stk E.tk E.cu (seg L lo j)) d = v := ⟨_, rfl⟩
                        have HV : Hid (nat (KT E L lo ++ stk E.tk E.cu (seg L lo j)) d = v) := hv
                        have hdm : d < E.m := by omega
                        have q0 : wr.cell? ⟨E.gp, d, none⟩ = some (.int .i64 (v : Int)) := by
                          rw [← hv, ← HKP2.out.low d (by rw [HK2.out]; omega)]; exact st3.po.cellAt hdm hdm
                        obtain ⟨_, bc', oc', ec', fc, qc⟩ := st3.pin.cu x hxm2 (beq_iff_eq.1 t5)
                        have qc2 : wr.cell? ⟨bc, oc + x, none⟩ = some (.int .i64 c) := by
                          rw [ec] at ec'
                          simp only [Option.some.injEq, Addr.mk.injEq, and_true] at ec'
                          obtain ⟨rfl, rfl⟩ := ec'
                          rw [← HC.out]; exact qc
                        have c6 := st3.pin.c6
                        rw [ec, hclm] at c6
                        have n1 : decide ((kl : Int) < (d : Int) + 1) = true := decide_eq_true (by omega)
                        have n2 : (kl : Int) < (d : Int) + 1 := by omega
                        have n3 : (d : Int) < (E.m : Int) := by omega
                        clear hv qc ec' fc
                        by_cases hcv : c < (v : Int)
                        · have n4 : decide (c < (v : Int)) = true := decide_eq_true hcv
                          go_upto_region 21 with (fail)
                          go_quiet (fail)
                          go_wp2
                          go_roundw
                          case rel => exact ⟨d, by first | rfl | trivial, by omega, by omega, fun q h1 h2 => by
                            by_cases e : q = d
                            · subst e; rw [HV.out]; exact hcv
                            · exact HGT.out q (by omega) h2, st3.drewN HBD.out _⟩
                          case measure => simp [lenOf]
                        · have n4 : decide (c < (v : Int)) = false := decide_eq_false hcv
                          go_upto_region 21 with (fail)
                          go_quiet (fail)
                          have HKE : Hid ((KT E L lo ++ stk E.tk E.cu (seg L lo j)).take (d + 1) = KT E L lo ++ (stk E.tk E.cu (seg L lo j)).filter (cond E.tk E.cu x)) := by
                            show _ = _
                            rw [cond_field t5, HC.out]
                            refine pop_app (stk_incs (fun a b h1 h2 => HINC.out.seg lo j h1 h2)) (by rw [HKL.out]; omega) (by rw [HK2.out]; omega) (fun q h1 h2 => HGT.out q h1 (by rw [HK2.out] at h2; exact h2)) (.inr ?_)
                            rw [Nat.add_sub_cancel, HV.out]; omega
                          have HNX : Hid (KT E L lo ++ stk E.tk E.cu (seg L lo (j + 1)) = (KT E L lo ++ stk E.tk E.cu (seg L lo j)).take (d + 1) ++ [x]) := by
                            show _ = _; rw [HN0.out, HKE.out]
                          have HLN : Hid (((KT E L lo ++ stk E.tk E.cu (seg L lo j)).take (d + 1)).length = d + 1) := by
                            show _ = _; rw [List.length_take, HK2.out]; omega
                          have HKN : Hid (Kp L E.m ((KT E L lo ++ stk E.tk E.cu (seg L lo j)).take (d + 1)) (lo + j) A) := HKP2.out.take (d + 1)
                          go_upto_region 23 with (fail)
                          refine abs_world (p := fun W => Code.wp Try.prog _ _ _ W) (q := PSt E w (SF E L E.m) (WF E L E.m) A) (st3.drewN HBD.out _) ?_
                          clear st3 q0 qc2 c6
                          rintro W4 st4
                          have HRW : RowN W4 E.gp 3 E.m (d + 1) (fun i => .int .i64 ((A i : Nat) : Int)) := st4.po.less (by omega)
                          go_wp2_with (at_builtin; refine append_row rfl _ _ 33 rfl Try.underlying33 Try.info3 (by exact HRW.alloc _) (by simp [Act.eval, Act.put]) (by omega) W4.heap.size (.int .i64 (x : Int)) (by simp [Act.eval, Act.put]) (by exact heap_alloc_new W4 _) rfl ?_)
                          go_roundw
                          case rel =>
                            have hpush := HKN.out.push hjl
                            rw [HX2.out, HLN.out] at hpush
                            refine ⟨j + 1, (d + 1) + 1, upd A (d + 1) x, by omega, by go_num, by first | rfl | trivial, ?_, ?_, ?_, ?_⟩
                            · rw [HNX.out, List.length_append, HLN.out]; rfl
                            · intro a h1 h2
                              by_cases e : a = lo + j
                              · subst e; rw [HX2.out, HQ2.out]
                              · exact HSG.out a h1 (by omega)
                            · rw [HNX.out]; exact hpush
                            · exact (st4.alloc HBD.out _).setPo HBD.out _ _
                          case measure => simp [intOf]; omega
                      · obtain rfl : kl3 = kl := by omega
                        have n1 : decide ((kl3 : Int) < (kl3 : Int)) = false := decide_eq_false (by omega)
                        have HKE : Hid ((KT E L lo ++ stk E.tk E.cu (seg L lo j)).take kl3 = KT E L lo ++ (stk E.tk E.cu (seg L lo j)).filter (cond E.tk E.cu x)) := by
                          show _ = _
                          rw [cond_field t5, HC.out]
                          exact pop_app (stk_incs (fun a b h1 h2 => HINC.out.seg lo j h1 h2)) (by rw [HKL.out]; omega) (by rw [HK2.out]; omega) (fun q h1 h2 => HGT.out q h1 (by rw [HK2.out] at h2; exact h2)) (.inl HKL.out.symm)
                        have HNX : Hid (KT E L lo ++ stk E.tk E.cu (seg L lo (j + 1)) = (KT E L lo ++ stk E.tk E.cu (seg L lo j)).take kl3 ++ [x]) := by
                          show _ = _; rw [HN0.out, HKE.out]
                        have HLN : Hid (((KT E L lo ++ stk E.tk E.cu (seg L lo j)).take kl3).length = kl3) := by
                          show _ = _; rw [List.length_take, HK2.out]; omega
                        have HKN : Hid (Kp L E.m ((KT E L lo ++ stk E.tk E.cu (seg L lo j)).take kl3) (lo + j) A) := HKP2.out.take kl3
                        go_upto_region 21 with (fail)
                        go_quiet (fail)
                        go_upto_region 23 with (fail)
                        refine abs_world (p := fun W => Code.wp Try.prog _ _ _ W) (q := PSt E w (SF E L E.m) (WF E L E.m) A) (st3.drewN HBD.out _) ?_
                        clear st3
                        rintro W4 st4
                        have HRW : RowN W4 E.gp 3 E.m kl3 (fun i => .int .i64 ((A i : Nat) : Int)) := st4.po.less (by omega)
                        go_wp2_with (at_builtin; refine append_row rfl _ _ 33 rfl Try.underlying33 Try.info3 (by exact HRW.alloc _) (by simp [Act.eval, Act.put]) (by omega) W4.heap.size (.int .i64 (x : Int)) (by simp [Act.eval, Act.put]) (by exact heap_alloc_new W4 _) rfl ?_)
                        go_roundw
                        case rel =>
                          have hpush := HKN.out.push hjl
                          rw [HX2.out, HLN.out] at hpush
                          refine ⟨j + 1, kl3 + 1, upd A kl3 x, by omega, by go_num, by first | rfl | trivial, ?_, ?_, ?_, ?_⟩
                          · rw [HNX.out, List.length_append, HLN.out]; rfl
                          · intro a h1 h2
                            by_cases e : a = lo + j
                            · subst e; rw [HX2.out, HQ2.out]
                            · exact HSG.out a h1 (by omega)
                          · rw [HNX.out]; exact hpush
                          · exact (st4.alloc HBD.out _).setPo HBD.out _ _
                        case measure => simp [intOf]; omega
              | false =>
                have HEX : Hid (lo + j = E.m ∨ (lo + j < E.m ∧ E.ow (nat L (lo + j)) ≠ p)) := .inr ⟨hjl, by rw [HX2.out, HQ2.out]; have := beq_eq_false_iff_ne.1 hqp; omega⟩
                go_upto_region 14 with (fail)
                go_quiet (fail)
                go_upto_region 24 with (fail)
                refine abs_world (p := fun W => Code.wp Try.prog _ _ _ W) (q := PSt E w (SF E L E.m) (WF E L E.m) A) (st.drewN HBD.out _) ?_
                clear st q0 q1 q3 c0 c1
                rintro W1 st1
                have hj1 : 1 ≤ j := by
                  rcases Nat.eq_zero_or_pos j with e | e
                  · subst e
                    rcases HEX.out with h | h
                    · omega
                    · exact absurd (by rw [Nat.add_zero, HX.out, HP.out]) h.2
                  · exact e
                have HB2 : Hid (∀ a, a < lo ∨ lo + j ≤ a → a < L.length → E.ow (nat L a) ≠ p) := by
                  intro a ha hal
                  rcases ha with ha | ha
                  · have := HBN.out a lo ha (Nat.le_refl _) (by rw [HL.out]; exact hlm)
                    rwa [HX.out, HP.out] at this
                  · rw [HL.out] at hal
                    rcases HEX.out with h | h
                    · omega
                    · have e1 := HBD.out.mono _ _ (HINC.out.le (a := lo) (b := lo + j) (by omega) (by rw [HL.out]; exact h.1)) (HLT.out _ h.1)
                      have e2 := HBD.out.mono _ _ (HINC.out.le (a := lo + j) (b := a) ha (by rw [HL.out]; exact hal)) (HLT.out _ hal)
                      rw [HX.out, HP.out] at e1
                      have := h.2
                      omega
                have HKT : Hid (KT E L (lo + j) = KT E L lo ++ (if ownWh (whTo E.tk E.ow E.gr L L.length (E.gr p)) p = true then stk E.tk E.cu (seg L lo j) else [])) := keptTo_seg HSG.out HB2.out
                have HBN2 : Hid (Bnd E L (lo + j)) := by
                  intro a b h1 h2 h3
                  by_cases ha : a < lo
                  · exact HBN.out a b ha (by omega) h3
                  · rw [HSG.out a (by omega) h1]; exact Ne.symm (HB2.out b (.inr h2) h3)
                obtain ⟨g, hg⟩ : ∃ g, E.gr p = g := ⟨_, rfl⟩
                have hgg : g < E.gc := by rw [← hg]; exact HBD.out.grp p hpn
                obtain ⟨bg, og, eg, fg, q2⟩ := st1.pin.gr p hpn
                rw [hg] at q2
                have HG : Hid (E.gr p = g) := hg
                clear hg fg
                have q4 : W1.cell? ⟨E.gse, g, none⟩ = some (.int .u32 (SF E L E.m g)) := st1.se.cellAt hgg hgg
                have q5 : W1.cell? ⟨E.gwh, g, none⟩ = some (.int .i64 (WF E L E.m g)) := st1.wh.cellAt hgg hgg
                have c3 := st1.pin.c3
                have c8 := st1.pin.c8
                have c9 := st1.pin.c9
                have c10 := st1.pin.c10
                rw [eg] at c3
                have n1 : (p : Int) < (E.mg : Int) := by omega
                have n2 : (g : Int) < (E.gc : Int) := by omega
                have n3 : (kl : Int) ≤ (E.m : Int) := by omega
                cases hw : whTo E.tk E.ow E.gr L E.m g with
                | none =>
                  have HOW : Hid (KT E L (lo + j) = KT E L lo ++ stk E.tk E.cu (seg L lo j)) := by
                    show _ = _
                    rw [HKT.out, HL.out, HG.out, hw, if_pos (by rfl)]
                  replace q4 : W1.cell? ⟨E.gse, g, none⟩ = some (.int .u32 0) := by rw [q4]; unfold SF; rw [hw]; rfl
                  clear hw
                  go_upto_region 25 with (fail)
                  go_quiet (fail)
                  go_wp2
                  go_roundw
                  case rel => exact ⟨lo + j, kl2, A, by omega, by first | rfl | trivial, by first | rfl | trivial, by rw [HOW.out]; exact HK2.out, HBN2.out, by rw [HOW.out]; exact HKP2.out, st1.drewN HBD.out _⟩
                  case measure => simp [intOf]; omega
                | some o =>
                  replace q4 : W1.cell? ⟨E.gse, g, none⟩ = some (.int .u32 1) := by rw [q4]; unfold SF; rw [hw]; rfl
                  replace q5 : W1.cell? ⟨E.gwh, g, none⟩ = some (.int .i64 (o : Int)) := by rw [q5]; unfold WF; rw [hw]; rfl
                  by_cases hop : o = p
                  · subst hop
                    have HOW : Hid (KT E L (lo + j) = KT E L lo ++ stk E.tk E.cu (seg L lo j)) := by
                      show _ = _
                      rw [HKT.out, HL.out, HG.out, hw, if_pos (by simp [ownWh])]
                    have n4 : ((o : Int) != (o : Int)) = false := by simp
                    clear hw
                    go_upto_region 25 with (fail)
                    go_quiet (fail)
                    go_wp2
                    go_roundw
                    case rel => exact ⟨lo + j, kl2, A, by omega, by first | rfl | trivial, by first | rfl | trivial, by rw [HOW.out]; exact HK2.out, HBN2.out, by rw [HOW.out]; exact HKP2.out, st1.drewN HBD.out _⟩
                    case measure => simp [intOf]; omega
                  · have HOW : Hid (KT E L (lo + j) = KT E L lo) := by
                      show _ = _
                      rw [HKT.out, HL.out, HG.out, hw, if_neg (by simp [ownWh, hop]), List.append_nil]
                    have HKN : Hid (Kp L E.m (KT E L lo) (lo + j) A) := by
                      have := HKP2.out.take kl
                      rw [List.take_append_of_le_length (by rw [HKL.out]; exact Nat.le_refl _), ← HKL.out, List.take_length] at this
                      exact this
                    have n4 : ((o : Int) != (p : Int)) = true := by simp; omega
                    clear hw
                    go_upto_region 25 with (fail)
                    go_quiet (fail)
                    go_wp2
                    go_roundw
                    case rel => exact ⟨lo + j, kl, A, by omega, by first | rfl | trivial, by first | rfl | trivial, by rw [HOW.out]; exact HKL.out, HBN2.out, by rw [HOW.out]; exact HKN.out, st1.drewN HBD.out _⟩
                    case measure => simp [intOf]; omega
            · have HEX : Hid (lo + j = E.m ∨ (lo + j < E.m ∧ E.ow (nat L (lo + j)) ≠ p)) := .inl (by omega)
              have m2 : ¬ (lo : Int) + (j : Int) < (E.m : Int) := by omega
              have m3 : decide ((lo : Int) + (j : Int) < (E.m : Int)) = false := decide_eq_false m2
              go_upto_region 14 with (fail)
              go_quiet (fail)
              go_upto_region 24 with (fail)
              refine abs_world (p := fun W => Code.wp Try.prog _ _ _ W) (q := PSt E w (SF E L E.m) (WF E L E.m) A) (st.drewN HBD.out _) ?_
              clear st
              rintro W1 st1
              have hj1 : 1 ≤ j := by
                rcases Nat.eq_zero_or_pos j with e | e
                · subst e
                  rcases HEX.out with h | h
                  · omega
                  · exact absurd (by rw [Nat.add_zero, HX.out, HP.out]) h.2
                · exact e
              have HB2 : Hid (∀ a, a < lo ∨ lo + j ≤ a → a < L.length → E.ow (nat L a) ≠ p) := by
                intro a ha hal
                rcases ha with ha | ha
                · have := HBN.out a lo ha (Nat.le_refl _) (by rw [HL.out]; exact hlm)
                  rwa [HX.out, HP.out] at this
                · rw [HL.out] at hal
                  rcases HEX.out with h | h
                  · omega
                  · have e1 := HBD.out.mono _ _ (HINC.out.le (a := lo) (b := lo + j) (by omega) (by rw [HL.out]; exact h.1)) (HLT.out _ h.1)
                    have e2 := HBD.out.mono _ _ (HINC.out.le (a := lo + j) (b := a) ha (by rw [HL.out]; exact hal)) (HLT.out _ hal)
                    rw [HX.out, HP.out] at e1
                    have := h.2
                    omega
              have HKT : Hid (KT E L (lo + j) = KT E L lo ++ (if ownWh (whTo E.tk E.ow E.gr L L.length (E.gr p)) p = true then stk E.tk E.cu (seg L lo j) else [])) := keptTo_seg HSG.out HB2.out
              have HBN2 : Hid (Bnd E L (lo + j)) := by
                intro a b h1 h2 h3
                by_cases ha : a < lo
                · exact HBN.out a b ha (by omega) h3
                · rw [HSG.out a (by omega) h1]; exact Ne.symm (HB2.out b (.inr h2) h3)
              obtain ⟨g, hg⟩ : ∃ g, E.gr p = g := ⟨_, rfl⟩
              have hgg : g < E.gc := by rw [← hg]; exact HBD.out.grp p hpn
              obtain ⟨bg, og, eg, fg, q2⟩ := st1.pin.gr p hpn
              rw [hg] at q2
              have HG : Hid (E.gr p = g) := hg
              clear hg fg
              have q4 : W1.cell? ⟨E.gse, g, none⟩ = some (.int .u32 (SF E L E.m g)) := st1.se.cellAt hgg hgg
              have q5 : W1.cell? ⟨E.gwh, g, none⟩ = some (.int .i64 (WF E L E.m g)) := st1.wh.cellAt hgg hgg
              have c3 := st1.pin.c3
              have c8 := st1.pin.c8
              have c9 := st1.pin.c9
              have c10 := st1.pin.c10
              rw [eg] at c3
              have n1 : (p : Int) < (E.mg : Int) := by omega
              have n2 : (g : Int) < (E.gc : Int) := by omega
              have n3 : (kl : Int) ≤ (E.m : Int) := by omega
              cases hw : whTo E.tk E.ow E.gr L E.m g with
              | none =>
                have HOW : Hid (KT E L (lo + j) = KT E L lo ++ stk E.tk E.cu (seg L lo j)) := by
                  show _ = _
                  rw [HKT.out, HL.out, HG.out, hw, if_pos (by rfl)]
                replace q4 : W1.cell? ⟨E.gse, g, none⟩ = some (.int .u32 0) := by rw [q4]; unfold SF; rw [hw]; rfl
                clear hw
                go_upto_region 25 with (fail)
                go_quiet (fail)
                go_wp2
                go_roundw
                case rel => exact ⟨lo + j, kl2, A, by omega, by first | rfl | trivial, by first | rfl | trivial, by rw [HOW.out]; exact HK2.out, HBN2.out, by rw [HOW.out]; exact HKP2.out, st1.drewN HBD.out _⟩
                case measure => simp [intOf]; omega
              | some o =>
                replace q4 : W1.cell? ⟨E.gse, g, none⟩ = some (.int .u32 1) := by rw [q4]; unfold SF; rw [hw]; rfl
                replace q5 : W1.cell? ⟨E.gwh, g, none⟩ = some (.int .i64 (o : Int)) := by rw [q5]; unfold WF; rw [hw]; rfl
                by_cases hop : o = p
                · subst hop
                  have HOW : Hid (KT E L (lo + j) = KT E L lo ++ stk E.tk E.cu (seg L lo j)) := by
                    show _ = _
                    rw [HKT.out, HL.out, HG.out, hw, if_pos (by simp [ownWh])]
                  have n4 : ((o : Int) != (o : Int)) = false := by simp
                  clear hw
                  go_upto_region 25 with (fail)
                  go_quiet (fail)
                  go_wp2
                  go_roundw
                  case rel => exact ⟨lo + j, kl2, A, by omega, by first | rfl | trivial, by first | rfl | trivial, by rw [HOW.out]; exact HK2.out, HBN2.out, by rw [HOW.out]; exact HKP2.out, st1.drewN HBD.out _⟩
                  case measure => simp [intOf]; omega
                · have HOW : Hid (KT E L (lo + j) = KT E L lo) := by
                    show _ = _
                    rw [HKT.out, HL.out, HG.out, hw, if_neg (by simp [ownWh, hop]), List.append_nil]
                  have HKN : Hid (Kp L E.m (KT E L lo) (lo + j) A) := by
                    have := HKP2.out.take kl
                    rw [List.take_append_of_le_length (by rw [HKL.out]; exact Nat.le_refl _), ← HKL.out, List.take_length] at this
                    exact this
                  have n4 : ((o : Int) != (p : Int)) = true := by simp; omega
                  clear hw
                  go_upto_region 25 with (fail)
                  go_quiet (fail)
                  go_wp2
                  go_roundw
                  case rel => exact ⟨lo + j, kl, A, by omega, by first | rfl | trivial, by first | rfl | trivial, by rw [HOW.out]; exact HKL.out, HBN2.out, by rw [HOW.out]; exact HKN.out, st1.drewN HBD.out _⟩
                  case measure => simp [intOf]; omega
        · obtain rfl : lo = E.m := by omega
          have l2 : ¬ (E.m : Int) < (E.m : Int) := by omega
          go_wp2
          go_ret
          have e : keptTo E.tk E.ow E.gr E.cu L L.length = KT E L E.m := by rw [HL.out]; rfl
          refine ⟨⟨A0, ?_, ?_, st.po⟩, st.chg⟩
          · rw [e, HKL.out]; rfl
          · rw [e]; exact HKP.out
end Go.Proofs.Qxb6601200a
