import Derived.Test.Qxb6601200aLcmPlain
import Derived.Deep.RegionHeld3
import Derived.Deep.AppendLies
namespace Go.Proofs.Qxb6601200a
open Go.RowKit

def cellsOf (L : List (Int × Int)) : List Value := L.flatMap fun p => [.int .i64 p.1, .int .i64 p.2]

theorem cellsOf_snoc (L : List (Int × Int)) (c t : Int) : cellsOf (L ++ [(c, t)]) = cellsOf L ++ [.int .i64 c, .int .i64 t] := by simp [cellsOf]

theorem cellsOf_length (L : List (Int × Int)) : (cellsOf L).length = L.length * 2 := by
  induction L with
  | nil => rfl
  | cons p L ih => simp only [cellsOf, List.flatMap_cons, List.length_append, List.length_cons, List.length_nil] at ih ⊢; omega

theorem cellsOf_at (L : List (Int × Int)) (i : Nat) (h : i < L.length) : (cellsOf L)[i * 2]? = some (.int .i64 (P1 L i)) ∧ (cellsOf L)[i * 2 + 1]? = some (.int .i64 (P2 L i)) := by
  induction L generalizing i with
  | nil => simp at h
  | cons p L ih =>
    cases i with
    | zero => simp [cellsOf, P1, P2]
    | succ i =>
      have := ih i (by simpa using h)
      have e : (i + 1) * 2 = i * 2 + 2 := by omega
      simp only [cellsOf, List.flatMap_cons, P1, P2] at this ⊢
      rw [e]
      simpa using this

/-- What is owned is read. -/
theorem owns_pairs {w : World} {base : Nat} {e : TypeId} {v : Value} {n : Nat} {L : List (Int × Int)} (h : w.ownsRow base e 2 v n (cellsOf L)) (hn : L.length = n) : ∃ a cap, v = .slice a n cap ∧ Pairs w a L := by
  rcases h.2 with ⟨hv, h0⟩ | ⟨g, cap, cur, rfl, hb, hg, hc, _, hsz, ht⟩
  · subst h0
    exact ⟨none, 0, hv, fun i hi => by omega⟩
  · refine ⟨_, cap, rfl, fun i hi => ⟨g, 0, rfl, (Array.getElem?_eq_some_iff.1 hg).1, ?_, ?_⟩⟩
    · have := (cellsOf_at L i hi).1
      rw [Nat.zero_add]
      exact (h.cellAt (i * 2) (by omega)).trans this
    · have := (cellsOf_at L i hi).2
      rw [Nat.zero_add]
      exact (h.cellAt (i * 2 + 1) (by omega)).trans this

theorem run_append_pair {w : World} {base : Nat} {v : Value} {L : List (Int × Int)} (ty : TypeId) (hown : w.ownsRow base 65 2 v L.length (cellsOf L)) (H : Nat) (c t : Int)
    (hH : w.heap[H]? = some (.cells #[.int .i64 c, .int .i64 t] 65 (0, 0))) (hlen : L.length ≤ 4194304) (hbase : base ≤ w.heap.size) :
    ∃ v' w', (Builtin.append_ #[60, 60] ty #[v, .slice (some ⟨H, 0, none⟩) 1 1]).run Try.prog w = .ok v' w' ∧ w'.ownsRow base 65 2 v' (L ++ [(c, t)]).length (cellsOf (L ++ [(c, t)])) ∧ Below base w w' := by
  obtain ⟨i0, hi0, hz0, hz1, hz2⟩ := info_parts Try.info65
  obtain ⟨v', w', hr, h2, h3, _⟩ := run_append_own (P := Try.prog) w base 60 ty 65 i0 _ 2 16 Try.underlying60 hi0 hz0 hz1 hz2 rfl (by decide) v _ _ hown ⟨H, 0, none⟩ 1 1 [.int .i64 c, .int .i64 t] rfl
    (by
      intro j u hu
      match j, hu with
      | 0, hu => simp at hu; subst hu; simp [Addr.add, World.cell?, hH]
      | 1, hu => simp at hu; subst hu; simp [Addr.add, World.cell?, hH])
    (by intro u hu; simp at hu; rcases hu with rfl | rfl <;> rfl) (by unfold maxLen; omega) (by omega) hbase
  refine ⟨v', w', hr, ?_, (Below.refl _ _).grown h3 hbase (fun k hk => (hown.lt k hk).1)⟩
  rw [cellsOf_snoc]
  simpa using h2

theorem append_pair {w : World} {ops : Array Oper} {rest : List Oper} {o : Oper} {a : Act} {Q : Exit → Act → World → Prop} (hgd : o.guard = none) (s x : Operand)
    (ho : o.op = .call { callee := .builtin .append, args := #[s, x], argTypes := #[60, 60] }) (base : Nat) (v : Value) (L : List (Int × Int)) (hs : a.eval s = v)
    (hown : w.ownsRow base 65 2 v L.length (cellsOf L)) (H : Nat) (c t : Int) (hx : a.eval x = .slice (some ⟨H, 0, none⟩) 1 1) (hH : w.heap[H]? = some (.cells #[.int .i64 c, .int .i64 t] 65 (0, 0)))
    (hlen : L.length ≤ 4194304) (hbase : base ≤ w.heap.size)
    (h : ∀ v' w', w'.ownsRow base 65 2 v' (L ++ [(c, t)]).length (cellsOf (L ++ [(c, t)])) → Below base w w' → wpList Try.prog ops Q rest (a.put o.dst v') w') : wpList Try.prog ops Q (o :: rest) a w := by
  refine wpList_plain hgd fun K hK => ?_
  obtain ⟨v', w', hr, h2, h3⟩ := run_append_pair o.type hown H c t hH hlen hbase
  unfold Oper.wp execOp
  simp only [ho, resolve, invoke, builtin, Sem.run_bind, Sem.run_pure, Result.andThen_ok, List.map_toArray, List.map_cons, List.map_nil, hs, hx, hr]
  exact hK _ _ (h v' w' h2 h3)

theorem step_append_pair {w : World} {ops : Array Oper} {o : Oper} {a : Act} {K : Act → World → Prop} {Q : Exit → Act → World → Prop} {E : Prop} (hg : o.guard = none) (s x : Operand)
    (ho : o.op = .call { callee := .builtin .append, args := #[s, x], argTypes := #[60, 60] }) (base : Nat) (v : Value) (L : List (Int × Int)) (hs : a.eval s = v)
    (hown : w.ownsRow base 65 2 v L.length (cellsOf L)) (H : Nat) (c t : Int) (hx : a.eval x = .slice (some ⟨H, 0, none⟩) 1 1) (hH : w.heap[H]? = some (.cells #[.int .i64 c, .int .i64 t] 65 (0, 0)))
    (hlen : L.length ≤ 4194304) (hbase : base ≤ w.heap.size)
    (h : ∀ v' w', w'.ownsRow base 65 2 v' (L ++ [(c, t)]).length (cellsOf (L ++ [(c, t)])) → Below base w w' → K (a.put o.dst v') w') :
    if Region.wanted o (yielded ops a.tmps) = true then Oper.wp Try.prog o a w K Q else E := by
  have hw : Region.wanted o (yielded ops a.tmps) = true := by simp [Region.wanted, hg]
  rw [if_pos hw]
  obtain ⟨v', w', hr, h2, h3⟩ := run_append_pair o.type hown H c t hH hlen hbase
  unfold Oper.wp execOp
  simp only [ho, resolve, invoke, builtin, Sem.run_bind, Sem.run_pure, Result.andThen_ok, List.map_toArray, List.map_cons, List.map_nil, hs, hx, hr]
  exact h v' w' h2 h3

theorem owns_laid {w : World} {base : Nat} {e : TypeId} {v : Value} {n : Nat} {xs : List Value} (h : w.ownsRow base e 2 v n xs) (m : Nat) (o : Obj) : ((w.drewN m).alloc o).ownsRow base e 2 v n xs :=
  World.ownsRow.alloc (w := w.drewN m) h o

def LcmEnd (xs ys : List (Int × Int)) (e : Ending) (w' : World) : Prop := ∃ a n cap L mg, e = .returned (.tuple #[.slice a n cap, .bool mg]) ∧ L.length = n ∧ Pairs w' a L ∧ LcmOK xs ys L mg

set_option maxHeartbeats 1000000 in
set_option maxRecDepth 100000 in
theorem lcm_any (a b : Option Addr) (n m cap cap' : Nat) (xs ys : List (Int × Int)) (w : World) (hn : Hid (xs.length = n)) (hm : Hid (ys.length = m)) (h1 : n ≤ 1048576) (h2 : m ≤ 1048576)
    (hp : Pairs w a xs) (hq : Pairs w b ys) (ix : Hid (Incr xs)) (iy : Hid (Incr ys)) :
    Calls Try.prog 35 #[.slice a n cap, .slice b m cap'] w fun e w' => LcmEnd xs ys e w' ∧ Below w.heap.size w w' := by
  go_enter Try.func35, Try.ntmps35
  go_wp2_with fail
  refine (divides_any b a m n cap' cap ys xs _ hm hn h2 h1 hq hp iy ix).mono ?_
  rintro e w1 ⟨⟨r1, rfl, hr1⟩, hb1⟩
  have hp1 := hp.below hb1
  have hq1 := hq.below hb1
  clear hp hq
  cases r1 with
  | true =>
    have hd : Hid (Div ys xs) := hr1.1 rfl
    clear hr1
    go_wp2_with fail
    go_ret2
    exact ⟨⟨_, _, _, xs, _, rfl, hn.out, hp1, lcmOK_left ix.out hd.out⟩, hb1⟩
  | false =>
    have hd : Hid (¬ Div ys xs) := fun h => by have := hr1.2 h; cases this
    clear hr1
    go_wp2_with fail
    refine (divides_any a b n m cap cap' xs ys _ hn hm h1 h2 hp1 hq1 ix iy).mono ?_
    rintro e w2 ⟨⟨r2, rfl, hr2⟩, hb2⟩
    have hp2 := hp1.below hb2
    have hq2 := hq1.below hb2
    have hb3 := hb1.trans (hb2.mono hb1.size)
    clear hp1 hq1
    cases r2 with
    | true =>
      have hd : Hid (Div xs ys) := hr2.1 rfl
      clear hr2
      go_wp2_with fail
      go_ret2
      exact ⟨⟨_, _, _, ys, _, rfl, hm.out, hq2, lcmOK_right iy.out hd.out⟩, hb3⟩
    | false =>
      have hd2 : Hid (¬ Div xs ys) := fun h => by have := hr2.2 h; cases this
      clear hr2
      go_wp2_with fail
      go_loopw [6, 7, 8] (fun v ii jj wr => ∃ (i j : Nat) (L : List (Int × Int)), i ≤ n ∧ j ≤ m ∧ ii = .int .i64 i ∧ jj = .int .i64 j ∧ Below w2.heap.size w2 wr ∧ wr.ownsRow w2.heap.size 65 2 v L.length (cellsOf L) ∧ PInv xs ys i j L) (fun _ ii jj _ => n + m - (intOf ii).toNat - (intOf jj).toNat)
      case atStart => exact ⟨0, 0, [], by omega, by omega, rfl, rfl, Below.refl _ _, World.ownsRow_nil _ _ _ _, PInv.start _ _⟩
      case round =>
        obtain ⟨i, j, L, hi, hj, rfl, rfl, hb, hown, hinv⟩ := hrel
        have hs := hb.size
        have hlen : L.length ≤ n + m := by have := hinv.len; omega
        by_cases hin : i < n
        · obtain ⟨b1, off1, rfl, hbl1, c0, c1⟩ := hp2 i (by have := hn.out; omega)
          have c0' := (hb.cell hbl1).trans c0
          have c1' := (hb.cell hbl1).trans c1
          have hbl1' : b1 < wr.heap.size := by omega
          clear c0 c1
          by_cases hjm : j < m
          · obtain ⟨b2, off2, rfl, hbl2, d0, d1⟩ := hq2 j (by have := hm.out; omega)
            have d0' := (hb.cell hbl2).trans d0
            have d1' := (hb.cell hbl2).trans d1
            have hbl2' : b2 < wr.heap.size := by omega
            clear d0 d1 hp2 hq2
            have t1 : ((j : Int) == (m : Int)) = false := beq_eq_false_iff_ne.2 (by omega)
            have t2 : (i : Int) < (n : Int) := by omega
            have t3 : (j : Int) < (m : Int) := by omega
            have t4 : ((i : Int) == (n : Int)) = false := beq_eq_false_iff_ne.2 (by omega)
            rcases Int.lt_trichotomy (P1 xs i) (P1 ys j) with hc | hc | hc
            · go_wp2
              go_quiet (fail)
              go_wp2_with (at_builtin; refine append_pair rfl _ _ rfl w2.heap.size _ L rfl (owns_laid hown nq _) wr.heap.size (P1 xs i) (P2 xs i) rfl ?hH2 ?hl2 ?hb2 ?_)
              case hH2 => exact heap_alloc_new (wr.drewN nq) _
              case hl2 => omega
              case hb2 => simp; omega
              intro v' w3 hown3 hb4
              go_wp2
              go_roundw
              case rel => exact ⟨i + 1, j, L ++ [(P1 xs i, P2 xs i)], by omega, by omega, by go_num, rfl, hb.trans ((below_drewN (Below.refl _ _) nq).alloc hs _ |>.trans hb4), by simpa using hown3, hinv.stepX ix.out iy.out (by have := hn.out; omega) (fun _ => hc)⟩
              case measure => simp [intOf]; omega
            · have HC : Hid (P1 xs i = P1 ys j) := hc
              have u1 : ¬ P1 xs i < P1 ys j := by omega
              have u2 : ¬ P1 ys j < P1 xs i := by omega
              clear hc
              go_wp2
              go_quiet (fail)
              go_wp2
              go_quiet (fail)
              go_wp2
              go_region_held3 (fun w' => w'.cell? ⟨b1, off1 + i * 2, none⟩ = some (.int .i64 (P1 xs i)) ∧ w'.cell? ⟨b1, off1 + i * 2 + 1, none⟩ = some (.int .i64 (P2 xs i)) ∧ w'.cell? ⟨b2, off2 + j * 2 + 1, none⟩ = some (.int .i64 (P2 ys j))) (first | go_keep | (refine ⟨?_, ?_, ?_⟩ <;> assumption))
                (first | (refine step_append_pair rfl _ _ rfl w2.heap.size _ L rfl (by exact World.ownsRow.alloc (w := wr) hown _) wr.heap.size (P1 xs i) (mx (P2 xs i) (P2 ys j)) rfl (by exact heap_alloc_new wr _) (by omega) (by simp; omega) ?_; intro v' w3 hown3 hb4; have e0 := (hb4.cell (p := ⟨b1, off1 + i * 2, none⟩) hbl1); have e1 := (hb4.cell (p := ⟨b1, off1 + i * 2 + 1, none⟩) hbl1); have e2 := (hb4.cell (p := ⟨b2, off2 + j * 2 + 1, none⟩) hbl2))) 
              go_wp2
              go_roundw
              case rel =>
                have hst := hinv.stepB ix.out iy.out (by have := hn.out; omega) (by have := hm.out; omega) HC.out
                exact ⟨i + 1, j + 1, L ++ [(P1 xs i, mx (P2 xs i) (P2 ys j))], by omega, by omega, by go_num, by go_num, ((below_drewN hb _).alloc hs _).trans hb4, by simpa using hown3, hst⟩
              case measure => simp [intOf]; omega
            · have u1 : ¬ P1 xs i < P1 ys j := by omega
              go_wp2
              go_quiet (fail)
              go_wp2
              go_quiet (fail)
              go_wp2_with (at_builtin; refine append_pair rfl _ _ rfl w2.heap.size _ L rfl (owns_laid hown _ _) wr.heap.size (P1 ys j) (P2 ys j) rfl ?hH3 ?hl3 ?hb3 ?_)
              case hH3 => exact heap_alloc_new (wr.drewN _) _
              case hl3 => omega
              case hb3 => simp; omega
              intro v' w3 hown3 hb4
              go_wp2
              go_roundw
              case rel => exact ⟨i, j + 1, L ++ [(P1 ys j, P2 ys j)], by omega, by omega, rfl, by go_num, hb.trans ((below_drewN (Below.refl _ _) _).alloc hs _ |>.trans hb4), by simpa using hown3, hinv.stepY ix.out iy.out (by have := hm.out; omega) (fun _ => hc)⟩
              case measure => simp [intOf]; omega
          · obtain rfl : j = m := by omega
            clear hp2 hq2
            have t1 : ((j : Int) == (j : Int)) = true := by simp
            have t2 : (i : Int) < (n : Int) := by omega
            go_wp2
            go_quiet (fail)
            go_wp2_with (at_builtin; refine append_pair rfl _ _ rfl w2.heap.size _ L rfl (owns_laid hown nq _) wr.heap.size (P1 xs i) (P2 xs i) rfl ?hH1 ?hl1 ?hb1 ?_)
            case hH1 => exact heap_alloc_new (wr.drewN nq) _
            case hl1 => omega
            case hb1 => simp; omega
            intro v' w3 hown3 hb4
            go_wp2
            go_roundw
            case rel => exact ⟨i + 1, j, L ++ [(P1 xs i, P2 xs i)], by omega, by omega, by go_num, rfl, hb.trans ((below_drewN (Below.refl _ _) nq).alloc hs _ |>.trans hb4), by simpa using hown3, hinv.stepX ix.out iy.out (by have := hn.out; omega) (fun h => by have := hm.out; omega)⟩
            case measure => simp [intOf]; omega
        · obtain rfl : i = n := by omega
          by_cases hjm : j < m
          · obtain ⟨b2, off2, rfl, hbl2, d0, d1⟩ := hq2 j (by have := hm.out; omega)
            have d0' := (hb.cell hbl2).trans d0
            have d1' := (hb.cell hbl2).trans d1
            have hbl2' : b2 < wr.heap.size := by omega
            clear d0 d1 hp2 hq2
            have t1 : ((j : Int) == (m : Int)) = false := beq_eq_false_iff_ne.2 (by omega)
            have t2 : decide ((i : Int) < (i : Int)) = false := decide_eq_false (by omega)
            have t3 : (j : Int) < (m : Int) := by omega
            have t4 : ((i : Int) == (i : Int)) = true := by simp
            go_wp2
            go_quiet (fail)
            go_wp2
            go_quiet (fail)
            go_wp2_with (at_builtin; refine append_pair rfl _ _ rfl w2.heap.size _ L rfl (owns_laid hown _ _) wr.heap.size (P1 ys j) (P2 ys j) rfl ?hH4 ?hl4 ?hb4 ?_)
            case hH4 => exact heap_alloc_new (wr.drewN _) _
            case hl4 => omega
            case hb4 => simp; omega
            intro v' w3 hown3 hb4
            go_wp2
            go_roundw
            case rel => exact ⟨i, j + 1, L ++ [(P1 ys j, P2 ys j)], by omega, by omega, rfl, by go_num, hb.trans ((below_drewN (Below.refl _ _) _).alloc hs _ |>.trans hb4), by simpa using hown3, hinv.stepY ix.out iy.out (by have := hm.out; omega) (fun h => by have := hn.out; omega)⟩
            case measure => simp [intOf]; omega
          · obtain rfl : j = m := by omega
            clear hp2 hq2
            have t1 : ¬ ((i : Int) < (i : Int)) := by omega
            have t2 : ¬ ((j : Int) < (j : Int)) := by omega
            go_wp2
            go_ret2
            obtain ⟨aa, cc, hv, hpp⟩ := owns_pairs hown rfl
            refine ⟨⟨aa, L.length, cc, L, true, by rw [hv]; rfl, rfl, hpp, ?_⟩, hb3.trans (hb.mono hb3.size)⟩
            refine lcmOK_both ix.out iy.out hd.out hd2.out (PInv.done ?_)
            rw [hn.out, hm.out]; exact hinv
end Go.Proofs.Qxb6601200a
