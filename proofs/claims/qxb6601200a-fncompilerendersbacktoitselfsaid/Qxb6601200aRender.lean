import Derived.Test.Qxb6601200aZZC
import Derived.Test.Qxb6601200aUtf
set_option linter.unusedSimpArgs false
set_option linter.unusedVariables false
namespace Go.Proofs.Qxb6601200a
open Go.RowKit

theorem addr_add (b off i : Nat) : (⟨b, off, none⟩ : Addr).add i = ⟨b, off + i, none⟩ := by
  unfold Addr.add
  split <;> simp_all

theorem run_append_row2 {w : World} {g N k : Nat} {e t ty : TypeId} {f : Nat → Value} {u v z : Value} {bytes H : Nat} (ht : Try.prog.underlying t = some (.slice e)) (hinfo : (Try.prog.info? e).map (fun i => (i.zero, i.size, i.bytes)) = some (some z, 1, bytes))
    (hr : RowN w g e N k f) (hk : k + 1 < N) (hH : w.heap[H]? = some (.cells #[u, v] e (0, 0))) (hu : u.oneCell' = true) (hv : v.oneCell' = true) :
    (Builtin.append_ #[t, t] ty #[.slice (some ⟨g, 0, none⟩) k N, .slice (some ⟨H, 0, none⟩) 2 2]).run Try.prog w = .ok (.slice (some ⟨g, 0, none⟩) (k + 2) N) ((w.setCell ⟨g, k, none⟩ u).setCell ⟨g, k + 1, none⟩ v) := by
  obtain ⟨i, hi, hz, hs, hb'⟩ := info_parts hinfo
  obtain ⟨u0, hu0⟩ := hr.cell (i := k) (by omega)
  obtain ⟨u1, hu1⟩ := hr.cell (i := k + 1) (by omega)
  have := run_append_room_cells (P := Try.prog) w t ty e i ht hi g 0 k N ⟨H, 0, none⟩ 2 2 [u, v] (by rw [hs]; rfl)
    (by
      intro j x hx
      match j, hx with
      | 0, hx => simp at hx; subst hx; simp [Addr.add, World.cell?, hH]
      | 1, hx => simp at hx; subst hx; simp [Addr.add, World.cell?, hH])
    (by intro x hx; simp at hx; rcases hx with rfl | rfl; exact hu; exact hv) (by omega)
    (by
      intro j hj
      match j, hj with
      | 0, _ => simp [hs, hu0]
      | 1, _ => simp [hs, hu1])
    (by
      intro j hj
      match j, hj with
      | 0, _ => simp [hs, hr.frozen]
      | 1, _ => simp [hs, hr.frozen])
  rw [this, hs]
  simp [World.setCells]

theorem append_row2 {w : World} {ops : Array Oper} {rest : List Oper} {o : Oper} {a : Act} {Q : Exit → Act → World → Prop} (hgd : o.guard = none) (s x : Operand) (t : TypeId)
    (ho : o.op = .call { callee := .builtin .append, args := #[s, x], argTypes := #[t, t] }) {g N k : Nat} {e : TypeId} {f : Nat → Value} {z : Value} {bytes : Nat} (ht : Try.prog.underlying t = some (.slice e)) (hinfo : (Try.prog.info? e).map (fun i => (i.zero, i.size, i.bytes)) = some (some z, 1, bytes))
    (hr : RowN w g e N k f) (hs : a.eval s = .slice (some ⟨g, 0, none⟩) k N) (hk : k + 1 < N) (H : Nat) (u v : Value) (hx : a.eval x = .slice (some ⟨H, 0, none⟩) 2 2) (hH : w.heap[H]? = some (.cells #[u, v] e (0, 0))) (hu : u.oneCell' = true) (hv : v.oneCell' = true)
    (h : wpList Try.prog ops Q rest (a.put o.dst (.slice (some ⟨g, 0, none⟩) (k + 2) N)) ((w.setCell ⟨g, k, none⟩ u).setCell ⟨g, k + 1, none⟩ v)) : wpList Try.prog ops Q (o :: rest) a w := by
  refine wpList_plain hgd fun K hK => ?_
  have hr2 := run_append_row2 (ty := o.type) ht hinfo hr hk hH hu hv
  unfold Oper.wp execOp
  simp only [ho, resolve, invoke, builtin, Sem.run_bind, Sem.run_pure, Result.andThen_ok, List.map_toArray, List.map_cons, List.map_nil, hs, hx, hr2]
  exact hK _ _ h

theorem row_push2 {w : World} {g N : Nat} {e : TypeId} {k : IntKind} {L : List Int} (h : RowN w g e N L.length (fun i => .int k (iat L i))) (u v : Int) : RowN ((w.setCell ⟨g, L.length, none⟩ (.int k u)).setCell ⟨g, L.length + 1, none⟩ (.int k v)) g e N ((L ++ [u]) ++ [v]).length (fun i => .int k (iat ((L ++ [u]) ++ [v]) i)) := by
  have h1 := row_push h u
  have h2 := row_push h1 v
  have e1 : (L ++ [u]).length = L.length + 1 := by simp
  rw [e1] at h2
  exact h2

/-- What is written for the k tokens from fr on. -/
def rendTo (at' : List Int) (fr : Nat) : Nat → List Int
  | 0 => []
  | k + 1 => rendTo at' fr k ++ rend1 (iat at' (fr + k))
theorem rendTo_len (at' : List Int) (fr : Nat) : ∀ k, (rendTo at' fr k).length ≤ 2 * k
  | 0 => by simp [rendTo]
  | k + 1 => by have := rendTo_len at' fr k; have := rend1_len (iat at' (fr + k)); simp only [rendTo, List.length_append]; omega

theorem tok_ge {t : Int} (h : isTok t) (q0 : (t == -2) = false) (q1 : (t == -3) = false) (q2 : (t == -4) = false) (q3 : (t == -5) = false) (q4 : (t == -6) = false) : 0 ≤ t := by
  rcases h with h | h | h | h | h | h
  · subst h; simp at q0
  · subst h; simp at q1
  · subst h; simp at q2
  · subst h; simp at q3
  · subst h; simp at q4
  · simp [Utf8.valid] at h; omega

def RendEnd (s : ByteArray) (e : Ending) : Prop := e = .returned (.tuple #[.string s, .bool true])

set_option maxRecDepth 100000 in
set_option maxHeartbeats 4000000 in
theorem render_any (a : Option Addr) (n cap fr tt d : Nat) (at' : List Int) (w : World) (HN : Hid (at'.length = n)) (HD : Hid (tt = fr + d)) (hfr : fr ≤ tt) (hto : tt ≤ n) (hn : n ≤ 4194304) (hp : Ints .i32 w a at') (htok : ∀ j, fr + j < tt → isTok (iat at' (fr + j))) :
    Calls Try.prog 27 #[.slice a n cap, .int .i64 fr, .int .i64 tt] w fun e w' => RendEnd (runesBytes (rendTo at' fr d)) e ∧ Below w.heap.size w w' := by
  obtain ⟨N, hN⟩ : ∃ N : Nat, N = 2 * (tt - fr) := ⟨_, rfl⟩
  have k1 := make0_run 42 21 _ 4 Try.underlying42 Try.info21 N (by omega) (by omega)
  rw [show ((N : Nat) : Int) = 2 * ((tt : Int) - (fr : Int)) from by omega] at k1
  have HNN : Hid (N = 2 * (tt - fr)) := hN
  have hNle : 2 * tt ≤ N + 2 * fr := by omega
  clear hN
  go_enter Try.func27, Try.ntmps27
  go_wp2
  go_loopw [8, 9] (fun o kk wr => ∃ (j : Nat) (L : List Int), fr + j ≤ tt ∧ kk = .int .i64 ((fr + j : Nat) : Int) ∧ o = .slice (some ⟨w.heap.size, 0, none⟩) L.length N ∧ L = rendTo at' fr j ∧ Below w.heap.size w wr ∧ RowN wr w.heap.size 21 N L.length (fun i => .int .i32 (iat L i))) (fun _ kk _ => tt - (intOf kk).toNat)
  case atStart => exact ⟨0, [], by omega, rfl, rfl, rfl, (Below.refl _ _).alloc (Nat.le_refl _) _, RowN.start _ _ _ _ _⟩
  case round =>
    obtain ⟨j, L, hj, rfl, rfl, hL, hb, hr⟩ := hrel
    have HL : Hid (L = rendTo at' fr j) := hL
    clear hL
    have hLl : L.length ≤ 2 * j := by rw [HL.out]; exact rendTo_len at' fr j
    have HL2 : Hid (rendTo at' fr (j + 1) = rendTo at' fr j ++ rend1 (iat at' (fr + j))) := rfl
    have hs := hb.size
    by_cases hlt : fr + j < tt
    · obtain ⟨b, off, rfl, hbl, d0⟩ := hp (fr + j) (by have := HN.out; omega)
      have e0 := (hb.cell hbl).trans d0
      have hl : (fr : Int) + (j : Int) < (tt : Int) := by omega
      have hl2 : (fr : Int) + (j : Int) < (n : Int) := by omega
      clear hp d0
      cases q0 : (iat at' (fr + j) == (-2)) with
      | true =>
        have H1 : Hid (rend1 (iat at' (fr + j)) = [42]) := by show _ = _; rw [show iat at' (fr + j) = -2 from beq_iff_eq.1 q0]; rfl
        go_wp2_with (at_builtin; refine append_row rfl _ _ 42 rfl Try.underlying42 Try.info21 (by exact hr.alloc _) rfl (by omega) wr.heap.size (.int .i32 42) rfl (by exact heap_alloc_new wr _) rfl ?_)
        go_roundw
        case rel => exact ⟨j + 1, L ++ [42], by omega, by go_num, by simp, by rw [HL2.out, HL.out, H1.out], (hb.alloc hs _).setCell (by simp) _, row_push (hr.alloc _) _⟩
        case measure => simp [intOf]; omega
      | false =>
        cases q1 : (iat at' (fr + j) == (-3)) with
        | true =>
          have H1 : Hid (rend1 (iat at' (fr + j)) = [63]) := by show _ = _; rw [show iat at' (fr + j) = -3 from beq_iff_eq.1 q1]; rfl
          go_wp2_with (at_builtin; refine append_row rfl _ _ 42 rfl Try.underlying42 Try.info21 (by exact hr.alloc _) rfl (by omega) wr.heap.size (.int .i32 63) rfl (by exact heap_alloc_new wr _) rfl ?_)
          go_roundw
          case rel => exact ⟨j + 1, L ++ [63], by omega, by go_num, by simp, by rw [HL2.out, HL.out, H1.out], (hb.alloc hs _).setCell (by simp) _, row_push (hr.alloc _) _⟩
          case measure => simp [intOf]; omega
        | false =>
          cases q2 : (iat at' (fr + j) == (-4)) with
          | true =>
            have H1 : Hid (rend1 (iat at' (fr + j)) = [92, 40]) := by show _ = _; rw [show iat at' (fr + j) = -4 from beq_iff_eq.1 q2]; rfl
            go_wp2_with (at_builtin; refine append_row2 rfl _ _ 42 rfl Try.underlying42 Try.info21 (by exact hr.alloc _) rfl (by omega) wr.heap.size (.int .i32 92) (.int .i32 40) rfl (by exact heap_alloc_new wr _) rfl rfl ?_)
            go_roundw
            case rel => exact ⟨j + 1, (L ++ [92]) ++ [40], by omega, by go_num, by simp, by rw [HL2.out, HL.out, H1.out]; simp, ((hb.alloc hs _).setCell (by simp) _).setCell (by simp) _, row_push2 (hr.alloc _) _ _⟩
            case measure => simp [intOf]; omega
          | false =>
            cases q3 : (iat at' (fr + j) == (-5)) with
            | true =>
              have H1 : Hid (rend1 (iat at' (fr + j)) = [92, 123]) := by show _ = _; rw [show iat at' (fr + j) = -5 from beq_iff_eq.1 q3]; rfl
              go_wp2_with (at_builtin; refine append_row2 rfl _ _ 42 rfl Try.underlying42 Try.info21 (by exact hr.alloc _) rfl (by omega) wr.heap.size (.int .i32 92) (.int .i32 123) rfl (by exact heap_alloc_new wr _) rfl rfl ?_)
              go_roundw
              case rel => exact ⟨j + 1, (L ++ [92]) ++ [123], by omega, by go_num, by simp, by rw [HL2.out, HL.out, H1.out]; simp, ((hb.alloc hs _).setCell (by simp) _).setCell (by simp) _, row_push2 (hr.alloc _) _ _⟩
              case measure => simp [intOf]; omega
            | false =>
              cases q4 : (iat at' (fr + j) == (-6)) with
              | true =>
                have H1 : Hid (rend1 (iat at' (fr + j)) = [92, 125]) := by show _ = _; rw [show iat at' (fr + j) = -6 from beq_iff_eq.1 q4]; rfl
                go_wp2_with (at_builtin; refine append_row2 rfl _ _ 42 rfl Try.underlying42 Try.info21 (by exact hr.alloc _) rfl (by omega) wr.heap.size (.int .i32 92) (.int .i32 125) rfl (by exact heap_alloc_new wr _) rfl rfl ?_)
                go_roundw
                case rel => exact ⟨j + 1, (L ++ [92]) ++ [125], by omega, by go_num, by simp, by rw [HL2.out, HL.out, H1.out]; simp, ((hb.alloc hs _).setCell (by simp) _).setCell (by simp) _, row_push2 (hr.alloc _) _ _⟩
                case measure => simp [intOf]; omega
              | false =>
                cases s0 : (iat at' (fr + j) == 42) with
                | true =>
                  have H1 : Hid (rend1 (iat at' (fr + j)) = [92, iat at' (fr + j)]) := by show _ = _; rw [show iat at' (fr + j) = 42 from beq_iff_eq.1 s0]; rfl
                  go_wp2_with (at_builtin; refine append_row2 rfl _ _ 42 rfl Try.underlying42 Try.info21 (by exact hr.alloc _) rfl (by omega) wr.heap.size (.int .i32 92) (.int .i32 (iat at' (fr + j))) rfl (by exact heap_alloc_new wr _) rfl rfl ?_)
                  go_roundw
                  case rel => exact ⟨j + 1, (L ++ [92]) ++ [(iat at' (fr + j))], by omega, by go_num, by simp, by rw [HL2.out, HL.out, H1.out]; simp, ((hb.alloc hs _).setCell (by simp) _).setCell (by simp) _, row_push2 (hr.alloc _) _ _⟩
                  case measure => simp [intOf]; omega
                | false =>
                  cases s1 : (iat at' (fr + j) == 63) with
                  | true =>
                    have H1 : Hid (rend1 (iat at' (fr + j)) = [92, iat at' (fr + j)]) := by show _ = _; rw [show iat at' (fr + j) = 63 from beq_iff_eq.1 s1]; rfl
                    go_wp2_with (at_builtin; refine append_row2 rfl _ _ 42 rfl Try.underlying42 Try.info21 (by exact hr.alloc _) rfl (by omega) wr.heap.size (.int .i32 92) (.int .i32 (iat at' (fr + j))) rfl (by exact heap_alloc_new wr _) rfl rfl ?_)
                    go_roundw
                    case rel => exact ⟨j + 1, (L ++ [92]) ++ [(iat at' (fr + j))], by omega, by go_num, by simp, by rw [HL2.out, HL.out, H1.out]; simp, ((hb.alloc hs _).setCell (by simp) _).setCell (by simp) _, row_push2 (hr.alloc _) _ _⟩
                    case measure => simp [intOf]; omega
                  | false =>
                    cases s2 : (iat at' (fr + j) == 92) with
                    | true =>
                      have H1 : Hid (rend1 (iat at' (fr + j)) = [92, iat at' (fr + j)]) := by show _ = _; rw [show iat at' (fr + j) = 92 from beq_iff_eq.1 s2]; rfl
                      go_wp2_with (at_builtin; refine append_row2 rfl _ _ 42 rfl Try.underlying42 Try.info21 (by exact hr.alloc _) rfl (by omega) wr.heap.size (.int .i32 92) (.int .i32 (iat at' (fr + j))) rfl (by exact heap_alloc_new wr _) rfl rfl ?_)
                      go_roundw
                      case rel => exact ⟨j + 1, (L ++ [92]) ++ [(iat at' (fr + j))], by omega, by go_num, by simp, by rw [HL2.out, HL.out, H1.out]; simp, ((hb.alloc hs _).setCell (by simp) _).setCell (by simp) _, row_push2 (hr.alloc _) _ _⟩
                      case measure => simp [intOf]; omega
                    | false =>
                      have H1 : Hid (rend1 (iat at' (fr + j)) = [iat at' (fr + j)]) := by
                        show _ = _
                        unfold rend1
                        rw [if_neg (beq_eq_false_iff_ne.1 q0), if_neg (beq_eq_false_iff_ne.1 q1), if_neg (beq_eq_false_iff_ne.1 q2), if_neg (beq_eq_false_iff_ne.1 q3), if_neg (beq_eq_false_iff_ne.1 q4), if_neg (by intro h; rcases h with h | h | h; exact beq_eq_false_iff_ne.1 s0 h; exact beq_eq_false_iff_ne.1 s1 h; exact beq_eq_false_iff_ne.1 s2 h)]
                      have hge : 0 ≤ iat at' (fr + j) := tok_ge (htok j hlt) q0 q1 q2 q3 q4
                      go_wp2_with (at_builtin; refine append_row rfl _ _ 42 rfl Try.underlying42 Try.info21 (by exact hr.alloc _) rfl (by omega) wr.heap.size (.int .i32 (iat at' (fr + j))) rfl (by exact heap_alloc_new wr _) rfl ?_)
                      go_roundw
                      case rel => exact ⟨j + 1, L ++ [(iat at' (fr + j))], by omega, by go_num, by simp, by rw [HL2.out, HL.out, H1.out], (hb.alloc hs _).setCell (by simp) _, row_push (hr.alloc _) _⟩
                      case measure => simp [intOf]; omega
    · obtain rfl : tt = fr + j := by omega
      have hcv := run_convert_runes (P := Try.prog) wr 42 9 21 ⟨w.heap.size, 0, none⟩ L.length N L (Nat.le_refl _) Try.underlying42 Try.underlying21 Try.underlying9 (fun i hi => by
        have := hr.cellAt (i := i) hi (by omega)
        show wr.cell? ((⟨w.heap.size, 0, none⟩ : Addr).add i) = some (.int .i32 (iat L i))
        rw [addr_add, Nat.zero_add]; exact this)
      rw [List.take_length] at hcv
      have hl : ¬ (fr : Int) + (j : Int) < ((fr + j : Nat) : Int) := by omega
      clear hp
      go_wp2
      go_ret2
      refine ⟨?_, hb⟩
      have : d = j := by have := HD.out; omega
      rw [this, ← HL.out]; rfl
end Go.Proofs.Qxb6601200a
