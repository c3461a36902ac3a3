import Derived.Test.Qxb6601200aCuts
import Derived.Lib.OthersKept
set_option linter.unusedSimpArgs false
set_option linter.unusedVariables false
namespace Go.Proofs.Qxb6601200a
open Go.RowKit

theorem make0_run (t e : TypeId) (z : Value) (bytes : Nat) (ht : Try.prog.underlying t = some (.slice e)) (hinfo : (Try.prog.info? e).map (fun i => (i.zero, i.size, i.bytes)) = some (some z, 1, bytes))
    (n : Nat) (hb : bytes * n ≤ 281474976710656) (hn : n ≤ 9223372036854775807) (w : World) :
    (Instr.makeSlice t (.int .i64 0) (.int .i64 (n : Int))).run Try.prog w = .ok (.slice (some ⟨w.heap.size, 0, none⟩) 0 n) (w.alloc (.cells (zeros z n) e)) := by
  obtain ⟨i, hi, hz, hs, hb'⟩ := info_parts hinfo
  have hb2 : (i.bytes : Int) * (n : Int) ≤ 281474976710656 := by
    rw [hb', ← Int.natCast_mul]; omega
  have hr := run_make (P := Try.prog) w t e i z ht hi hz .i64 .i64 0 n (by omega) (by omega) hb2 (by omega)
  simp only [Int.toNat_natCast, Int.toNat_zero, hs, Nat.mul_one] at hr
  exact hr

theorem abs_world {p q : World → Prop} {W : World} (h : q W) (k : ∀ W, q W → p W) : p W := k W h

/-! ### append of one element into a row with room -/
theorem run_append_row {w : World} {g N k : Nat} {e t ty : TypeId} {f : Nat → Value} {v z : Value} {bytes H : Nat} (ht : Try.prog.underlying t = some (.slice e)) (hinfo : (Try.prog.info? e).map (fun i => (i.zero, i.size, i.bytes)) = some (some z, 1, bytes))
    (hr : RowN w g e N k f) (hk : k < N) (hH : w.heap[H]? = some (.cells #[v] e (0, 0))) (hv : v.oneCell' = true) :
    (Builtin.append_ #[t, t] ty #[.slice (some ⟨g, 0, none⟩) k N, .slice (some ⟨H, 0, none⟩) 1 1]).run Try.prog w = .ok (.slice (some ⟨g, 0, none⟩) (k + 1) N) (w.setCell ⟨g, k, none⟩ v) := by
  obtain ⟨i, hi, hz, hs, hb'⟩ := info_parts hinfo
  obtain ⟨u, hu⟩ := hr.cell hk
  have := run_append_room_cells (P := Try.prog) w t ty e i ht hi g 0 k N ⟨H, 0, none⟩ 1 1 [v] (by rw [hs]; rfl)
    (by
      intro j x hx
      match j, hx with
      | 0, hx => simp at hx; subst hx; simp [Addr.add, World.cell?, hH])
    (by intro x hx; simp at hx; subst hx; exact hv) (by omega)
    (by intro j hj; simp at hj; subst hj; simp [hs, hu]) (by intro j hj; simp at hj; subst hj; simp [hs, hr.frozen])
  rw [this, hs]
  simp [World.setCells]

theorem append_row {w : World} {ops : Array Oper} {rest : List Oper} {o : Oper} {a : Act} {Q : Exit → Act → World → Prop} (hgd : o.guard = none) (s x : Operand) (t : TypeId)
    (ho : o.op = .call { callee := .builtin .append, args := #[s, x], argTypes := #[t, t] }) {g N k : Nat} {e : TypeId} {f : Nat → Value} {z : Value} {bytes : Nat} (ht : Try.prog.underlying t = some (.slice e)) (hinfo : (Try.prog.info? e).map (fun i => (i.zero, i.size, i.bytes)) = some (some z, 1, bytes))
    (hr : RowN w g e N k f) (hs : a.eval s = .slice (some ⟨g, 0, none⟩) k N) (hk : k < N) (H : Nat) (v : Value) (hx : a.eval x = .slice (some ⟨H, 0, none⟩) 1 1) (hH : w.heap[H]? = some (.cells #[v] e (0, 0))) (hv : v.oneCell' = true)
    (h : wpList Try.prog ops Q rest (a.put o.dst (.slice (some ⟨g, 0, none⟩) (k + 1) N)) (w.setCell ⟨g, k, none⟩ v)) : wpList Try.prog ops Q (o :: rest) a w := by
  refine wpList_plain hgd fun K hK => ?_
  have hr2 := run_append_row (ty := o.type) ht hinfo hr hk hH hv
  unfold Oper.wp execOp
  simp only [ho, resolve, invoke, builtin, Sem.run_bind, Sem.run_pure, Result.andThen_ok, List.map_toArray, List.map_cons, List.map_nil, hs, hx, hr2]
  exact hK _ _ h

theorem step_append_row {w : World} {ops : Array Oper} {o : Oper} {a : Act} {K : Act → World → Prop} {Q : Exit → Act → World → Prop} {E : Prop} (hgd : o.guard = none) (s x : Operand) (t : TypeId)
    (ho : o.op = .call { callee := .builtin .append, args := #[s, x], argTypes := #[t, t] }) {g N k : Nat} {e : TypeId} {f : Nat → Value} {z : Value} {bytes : Nat} (ht : Try.prog.underlying t = some (.slice e)) (hinfo : (Try.prog.info? e).map (fun i => (i.zero, i.size, i.bytes)) = some (some z, 1, bytes))
    (hr : RowN w g e N k f) (hs : a.eval s = .slice (some ⟨g, 0, none⟩) k N) (hk : k < N) (H : Nat) (v : Value) (hx : a.eval x = .slice (some ⟨H, 0, none⟩) 1 1) (hH : w.heap[H]? = some (.cells #[v] e (0, 0))) (hv : v.oneCell' = true)
    (h : K (a.put o.dst (.slice (some ⟨g, 0, none⟩) (k + 1) N)) (w.setCell ⟨g, k, none⟩ v)) :
    if Region.wanted o (yielded ops a.tmps) = true then Oper.wp Try.prog o a w K Q else E := by
  have hw : Region.wanted o (yielded ops a.tmps) = true := by simp [Region.wanted, hgd]
  rw [if_pos hw]
  have hr2 := run_append_row (ty := o.type) ht hinfo hr hk hH hv
  unfold Oper.wp execOp
  simp only [ho, resolve, invoke, builtin, Sem.run_bind, Sem.run_pure, Result.andThen_ok, List.map_toArray, List.map_cons, List.map_nil, hs, hx, hr2]
  exact h

/-! ### The automaton's struct -/
def SA (w : World) (gA : Nat) (vs : List Value) : Prop := w.rowIs gA 71 11 (fun i => vs.getD i undef)
theorem SA.set {w : World} {gA : Nat} {vs : List Value} (h : SA w gA vs) (hl : vs.length = 11) (i : Nat) (v : Value) (hi : i < 11) : SA (w.setCell ⟨gA, i, none⟩ v) gA (vs.set i v) := by
  refine World.rowIs.congr (World.rowIs.set h i v) fun j hj => ?_
  by_cases e : j = i
  · subst e; simp [hl, hj]
  · simp [e, List.getElem?_set, Ne.symm e]
theorem SA.cell {w : World} {gA : Nat} {vs : List Value} (h : SA w gA vs) (i : Nat) (hi : i < 11) : w.cell? ⟨gA, i, none⟩ = some (vs.getD i undef) := World.rowIs.cell h hi
theorem SA.frozen {w : World} {gA : Nat} {vs : List Value} (h : SA w gA vs) (i : Nat) : w.frozen? ⟨gA, i, none⟩ = false := World.rowIs.frozen h i
theorem SA.of_block {w w' : World} {gA : Nat} {vs : List Value} (h : SA w gA vs) (e : w'.heap[gA]? = w.heap[gA]?) : SA w' gA vs := World.rowIs.of_block h e
theorem SA.lt {w : World} {gA : Nat} {vs : List Value} (h : SA w gA vs) : gA < w.heap.size := World.rowIs.lt h

/-- Where compile's blocks lie. -/
structure Lay (B gA gat gow gfi gfo : Nat) : Prop where
  b1 : B ≤ gat
  b2 : B ≤ gow
  b3 : B ≤ gfi
  b4 : B ≤ gfo
  l1 : gat < gA
  l2 : gow < gA
  l3 : gfi < gA
  l4 : gfo < gA
  n12 : gat ≠ gow
  n13 : gat ≠ gfi
  n14 : gat ≠ gfo
  n23 : gow ≠ gfi
  n24 : gow ≠ gfo
  n34 : gfi ≠ gfo

/-- Compile's memory in the middle of its work. -/
structure CS (w0 : World) (B gA gat gow gfi gfo N n : Nat) (grp : Value) (wr : World) (A O F : List Int) (Fo : List Bool) (cl : Bool) : Prop where
  below : Below B w0 wr
  sa : SA wr gA [.slice (some ⟨gat, 0, none⟩) A.length N, .slice (some ⟨gow, 0, none⟩) O.length N, .slice (some ⟨gfi, 0, none⟩) F.length n, grp, .slice (some ⟨gfo, 0, none⟩) Fo.length n, .bool cl, .slice none 0 0, .slice none 0 0, .slice none 0 0, .slice none 0 0, .int .u32 0]
  rat : RowN wr gat 21 N A.length (fun i => .int .i32 (iat A i))
  row : RowN wr gow 3 N O.length (fun i => .int .i64 (iat O i))
  rfi : RowN wr gfi 3 n F.length (fun i => .int .i64 (iat F i))
  rfo : RowN wr gfo 4 n Fo.length (fun i => .bool (bat Fo i))

section
variable {w0 wr : World} {B gA gat gow gfi gfo N n : Nat} {grp : Value} {A O F : List Int} {Fo : List Bool} {cl : Bool}

/-- Whatever keeps the five blocks and all below B. -/
theorem CS.keep (h : CS w0 B gA gat gow gfi gfo N n grp wr A O F Fo cl) {w' : World} (hb : Below B w0 w') (hk : ∀ k, k ≤ gA → B ≤ k → w'.heap[k]? = wr.heap[k]?) (ly : Lay B gA gat gow gfi gfo) :
    CS w0 B gA gat gow gfi gfo N n grp w' A O F Fo cl :=
  ⟨hb, h.sa.of_block (hk _ (Nat.le_refl _) (by have := ly.b1; have := ly.l1; omega)), h.rat.of_block (hk _ (by have := ly.l1; omega) ly.b1), h.row.of_block (hk _ (by have := ly.l2; omega) ly.b2), h.rfi.of_block (hk _ (by have := ly.l3; omega) ly.b3), h.rfo.of_block (hk _ (by have := ly.l4; omega) ly.b4)⟩
theorem CS.ltA (h : CS w0 B gA gat gow gfi gfo N n grp wr A O F Fo cl) : gA < wr.heap.size := h.sa.lt
theorem CS.alloc (h : CS w0 B gA gat gow gfi gfo N n grp wr A O F Fo cl) (ly : Lay B gA gat gow gfi gfo) (o : Obj) : CS w0 B gA gat gow gfi gfo N n grp (wr.alloc o) A O F Fo cl := by
  have hA := h.ltA
  exact h.keep (h.below.alloc (by have := ly.b1; have := ly.l1; omega) o) (fun k hk _ => Below.heap_alloc _ _ _ (by omega)) ly
theorem CS.drewN (h : CS w0 B gA gat gow gfi gfo N n grp wr A O F Fo cl) (ly : Lay B gA gat gow gfi gfo) (m : Nat) : CS w0 B gA gat gow gfi gfo N n grp (wr.drewN m) A O F Fo cl :=
  h.keep (below_drewN h.below m) (fun _ _ _ => rfl) ly
theorem CS.iterAt (h : CS w0 B gA gat gow gfi gfo N n grp wr A O F Fo cl) (ly : Lay B gA gat gow gfi gfo) {it : Nat} (hit : gA < it) (s : ByteArray) (pos : Nat) : CS w0 B gA gat gow gfi gfo N n grp (wr.iterAt it s pos) A O F Fo cl :=
  h.keep (Lib.below_iterAt h.below (by have := ly.b1; have := ly.l1; omega) s pos) (fun k hk _ => Lib.iterAt_other _ _ _ _ _ (by omega)) ly

theorem row_push {w : World} {g N : Nat} {e : TypeId} {k : IntKind} {L : List Int} (h : RowN w g e N L.length (fun i => .int k (iat L i))) (v : Int) : RowN (w.setCell ⟨g, L.length, none⟩ (.int k v)) g e N (L ++ [v]).length (fun i => .int k (iat (L ++ [v]) i)) := by
  obtain ⟨F, hF, hc⟩ := h
  refine ⟨_, hF.set _ _, fun i hi => ?_⟩
  simp only [List.length_append, List.length_cons, List.length_nil] at hi
  by_cases ei : i = L.length
  · subst ei
    have := iat_app_ge (L := L) (M := [v]) (k := 0)
    rw [Nat.add_zero] at this
    simp only [if_true, this]; rfl
  · simp only [if_neg ei]
    rw [iat_app_lt (by omega)]
    exact hc i (by omega)
theorem bat_app_lt {L M : List Bool} {k : Nat} (h : k < L.length) : bat (L ++ M) k = bat L k := by simp [bat, List.getElem?_append_left h]
theorem bat_app_last {L : List Bool} {v : Bool} : bat (L ++ [v]) L.length = v := by simp [bat]
theorem row_pushB {w : World} {g N : Nat} {e : TypeId} {L : List Bool} (h : RowN w g e N L.length (fun i => .bool (bat L i))) (v : Bool) : RowN (w.setCell ⟨g, L.length, none⟩ (.bool v)) g e N (L ++ [v]).length (fun i => .bool (bat (L ++ [v]) i)) := by
  obtain ⟨F, hF, hc⟩ := h
  refine ⟨_, hF.set _ _, fun i hi => ?_⟩
  simp only [List.length_append, List.length_cons, List.length_nil] at hi
  by_cases ei : i = L.length
  · subst ei
    simp only [if_true, bat_app_last]
  · simp only [if_neg ei]
    rw [bat_app_lt (by omega)]
    exact hc i (by omega)

/-- 'a.at = append(a.at, v)'. -/
theorem CS.pushAt (h : CS w0 B gA gat gow gfi gfo N n grp wr A O F Fo cl) (ly : Lay B gA gat gow gfi gfo) (v : Int) :
    CS w0 B gA gat gow gfi gfo N n grp ((wr.setCell ⟨gat, A.length, none⟩ (.int .i32 v)).setCell ⟨gA, 0, none⟩ (.slice (some ⟨gat, 0, none⟩) (A.length + 1) N)) (A ++ [v]) O F Fo cl := by
  refine ⟨(h.below.setCell ly.b1 _).setCell (by have := ly.b1; have := ly.l1; simp; omega) _, ?_, ?_, ?_, ?_, ?_⟩
  · have := (SA.of_block (w' := wr.setCell ⟨gat, A.length, none⟩ (.int .i32 v)) h.sa (Below.heap_setCell _ _ _ _ (by have := ly.l1; simp; omega))).set rfl 0 (.slice (some ⟨gat, 0, none⟩) (A.length + 1) N) (by omega)
    simpa using this
  · exact (row_push h.rat v).setOther (by have := ly.l1; simp; omega) _
  · exact (h.row.setOther (by have := ly.n12; simp; omega) _).setOther (by have := ly.l2; simp; omega) _
  · exact (h.rfi.setOther (by have := ly.n13; simp; omega) _).setOther (by have := ly.l3; simp; omega) _
  · exact (h.rfo.setOther (by have := ly.n14; simp; omega) _).setOther (by have := ly.l4; simp; omega) _
theorem CS.pushOw (h : CS w0 B gA gat gow gfi gfo N n grp wr A O F Fo cl) (ly : Lay B gA gat gow gfi gfo) (v : Int) :
    CS w0 B gA gat gow gfi gfo N n grp ((wr.setCell ⟨gow, O.length, none⟩ (.int .i64 v)).setCell ⟨gA, 1, none⟩ (.slice (some ⟨gow, 0, none⟩) (O.length + 1) N)) A (O ++ [v]) F Fo cl := by
  refine ⟨(h.below.setCell ly.b2 _).setCell (by have := ly.b1; have := ly.l1; simp; omega) _, ?_, ?_, ?_, ?_, ?_⟩
  · have := (SA.of_block (w' := wr.setCell ⟨gow, O.length, none⟩ (.int .i64 v)) h.sa (Below.heap_setCell _ _ _ _ (by have := ly.l2; simp; omega))).set rfl 1 (.slice (some ⟨gow, 0, none⟩) (O.length + 1) N) (by omega)
    simpa using this
  · exact (h.rat.setOther (by have := ly.n12; simp; omega) _).setOther (by have := ly.l1; simp; omega) _
  · exact (row_push h.row v).setOther (by have := ly.l2; simp; omega) _
  · exact (h.rfi.setOther (by have := ly.n23; simp; omega) _).setOther (by have := ly.l3; simp; omega) _
  · exact (h.rfo.setOther (by have := ly.n24; simp; omega) _).setOther (by have := ly.l4; simp; omega) _
theorem CS.pushFi (h : CS w0 B gA gat gow gfi gfo N n grp wr A O F Fo cl) (ly : Lay B gA gat gow gfi gfo) (v : Int) :
    CS w0 B gA gat gow gfi gfo N n grp ((wr.setCell ⟨gfi, F.length, none⟩ (.int .i64 v)).setCell ⟨gA, 2, none⟩ (.slice (some ⟨gfi, 0, none⟩) (F.length + 1) n)) A O (F ++ [v]) Fo cl := by
  refine ⟨(h.below.setCell ly.b3 _).setCell (by have := ly.b1; have := ly.l1; simp; omega) _, ?_, ?_, ?_, ?_, ?_⟩
  · have := (SA.of_block (w' := wr.setCell ⟨gfi, F.length, none⟩ (.int .i64 v)) h.sa (Below.heap_setCell _ _ _ _ (by have := ly.l3; simp; omega))).set rfl 2 (.slice (some ⟨gfi, 0, none⟩) (F.length + 1) n) (by omega)
    simpa using this
  · exact (h.rat.setOther (by have := ly.n13; simp; omega) _).setOther (by have := ly.l1; simp; omega) _
  · exact (h.row.setOther (by have := ly.n23; simp; omega) _).setOther (by have := ly.l2; simp; omega) _
  · exact (row_push h.rfi v).setOther (by have := ly.l3; simp; omega) _
  · exact (h.rfo.setOther (by have := ly.n34; simp; omega) _).setOther (by have := ly.l4; simp; omega) _
theorem CS.pushFo (h : CS w0 B gA gat gow gfi gfo N n grp wr A O F Fo cl) (ly : Lay B gA gat gow gfi gfo) (v : Bool) :
    CS w0 B gA gat gow gfi gfo N n grp ((wr.setCell ⟨gfo, Fo.length, none⟩ (.bool v)).setCell ⟨gA, 4, none⟩ (.slice (some ⟨gfo, 0, none⟩) (Fo.length + 1) n)) A O F (Fo ++ [v]) cl := by
  refine ⟨(h.below.setCell ly.b4 _).setCell (by have := ly.b1; have := ly.l1; simp; omega) _, ?_, ?_, ?_, ?_, ?_⟩
  · have := (SA.of_block (w' := wr.setCell ⟨gfo, Fo.length, none⟩ (.bool v)) h.sa (Below.heap_setCell _ _ _ _ (by have := ly.l4; simp; omega))).set rfl 4 (.slice (some ⟨gfo, 0, none⟩) (Fo.length + 1) n) (by omega)
    simpa using this
  · exact (h.rat.setOther (by have := ly.n14; simp; omega) _).setOther (by have := ly.l1; simp; omega) _
  · exact (h.row.setOther (by have := ly.n24; simp; omega) _).setOther (by have := ly.l2; simp; omega) _
  · exact (h.rfi.setOther (by have := ly.n34; simp; omega) _).setOther (by have := ly.l3; simp; omega) _
  · exact (row_pushB h.rfo v).setOther (by have := ly.l4; simp; omega) _
theorem CS.setCl (h : CS w0 B gA gat gow gfi gfo N n grp wr A O F Fo cl) (ly : Lay B gA gat gow gfi gfo) (v : Bool) :
    CS w0 B gA gat gow gfi gfo N n grp (wr.setCell ⟨gA, 5, none⟩ (.bool v)) A O F Fo v := by
  refine ⟨h.below.setCell (by have := ly.b1; have := ly.l1; simp; omega) _, ?_, ?_, ?_, ?_, ?_⟩
  · have := SA.set h.sa rfl 5 (.bool v) (by omega)
    simpa using this
  · exact h.rat.setOther (by have := ly.l1; simp; omega) _
  · exact h.row.setOther (by have := ly.l2; simp; omega) _
  · exact h.rfi.setOther (by have := ly.l3; simp; omega) _
  · exact h.rfo.setOther (by have := ly.l4; simp; omega) _
/-- A block above gA is kept by each of these. -/
theorem above_two {w : World} {gA k : Nat} (hk : gA < k) {a1 a2 : Addr} (h1 : a1.block ≤ gA) (h2 : a2.block ≤ gA) (u v : Value) : ((w.setCell a1 u).setCell a2 v).heap[k]? = w.heap[k]? := by
  rw [Below.heap_setCell _ _ _ _ (by omega), Below.heap_setCell _ _ _ _ (by omega)]
end

/-- The same, and the box of the pattern at hand. -/
def CSB (w0 : World) (B gA gat gow gfi gfo N n : Nat) (grp : Value) (gp : Nat) (bx : Obj) (A O F : List Int) (Fo : List Bool) (cl : Bool) (W : World) : Prop :=
  CS w0 B gA gat gow gfi gfo N n grp W A O F Fo cl ∧ W.heap[gp]? = some bx
/-- .. and the iterator over its text. -/
def CSI (w0 : World) (B gA gat gow gfi gfo N n : Nat) (grp : Value) (gp : Nat) (bx : Obj) (it : Nat) (s : ByteArray) (pos : Nat) (A O F : List Int) (Fo : List Bool) (cl : Bool) (W : World) : Prop :=
  CS w0 B gA gat gow gfi gfo N n grp W A O F Fo cl ∧ W.heap[gp]? = some bx ∧ W.heap[it]? = some (.stringIter s pos)

/-- What compile hands back: the automaton in memory. -/
def CutVal (W : World) (gA gm : Nat) (at' fi ow : List Int) (cv : Value) : Prop :=
  (fields at' = false ∧ cv = .slice none 0 0) ∨
  (fields at' = true ∧ ∃ g, gA < g ∧ g < gm ∧ cv = .slice (some ⟨g, 0, none⟩) at'.length at'.length ∧ RowN W g 3 at'.length at'.length (fun i => .int .i64 (cutAt at' fi ow i)))
structure Auto (B n : Nat) (ps : List Pat) (grp : Value) (gs : List Int) (gA gat gow gfi gfo gm gse gwh N : Nat) (cv : Value) (st : Int) (W : World) : Prop where
  ly : Lay B gA gat gow gfi gfo
  m1 : gA < gm
  m2 : gm < gse
  m3 : gse < gwh
  sa : SA W gA [.slice (some ⟨gat, 0, none⟩) (atTo ps n).length N, .slice (some ⟨gow, 0, none⟩) (owTo ps n).length N, .slice (some ⟨gfi, 0, none⟩) (fiTo ps n).length n, grp, .slice (some ⟨gfo, 0, none⟩) (foTo ps n).length n, .bool (clTo ps n), cv,
    .slice (some ⟨gm, 0, none⟩) (atTo ps n).length (atTo ps n).length, .slice (some ⟨gse, 0, none⟩) (gcount gs) (gcount gs), .slice (some ⟨gwh, 0, none⟩) (gcount gs) (gcount gs), .int .u32 st]
  rat : RowN W gat 21 N (atTo ps n).length (fun i => .int .i32 (iat (atTo ps n) i))
  row : RowN W gow 3 N (owTo ps n).length (fun i => .int .i64 (iat (owTo ps n) i))
  rfi : RowN W gfi 3 n (fiTo ps n).length (fun i => .int .i64 (iat (fiTo ps n) i))
  rfo : RowN W gfo 4 n (foTo ps n).length (fun i => .bool (bat (foTo ps n) i))
  cut : CutVal W gA gm (atTo ps n) (fiTo ps n) (owTo ps n) cv
  mark : RowN W gm 44 (atTo ps n).length (atTo ps n).length (fun _ => .int .u32 0)
  sett : RowN W gse 44 (gcount gs) (gcount gs) (fun _ => .int .u32 0)
  whole : RowN W gwh 3 (gcount gs) (gcount gs) (fun _ => .int .i64 0)
def AutoEnd (B n : Nat) (ps : List Pat) (grp : Value) (gs : List Int) (e : Ending) (W : World) : Prop :=
  ∃ gA gat gow gfi gfo gm gse gwh N cv, e = .returned (.pointer (some ⟨gA, 0, none⟩)) ∧ (atTo ps n).length ≤ N ∧ Auto B n ps grp gs gA gat gow gfi gfo gm gse gwh N cv 0 W

theorem gcTo_cast (gs : List Int) : gcTo gs gs.length = ((gcount gs : Nat) : Int) := by
  have := gcTo_nonneg gs gs.length
  unfold gcount; omega

/-- Compile's memory behind the store of its marks. -/
structure Mid (w0 W1 : World) (B n gA mm : Nat) (ps : List Pat) (grp cv : Value) (gat gow gfi gfo N : Nat) (W2 : World) : Prop where
  below : Below B w0 W2
  size : W2.heap.size = W1.heap.size + 1
  ltA : gA < W1.heap.size
  sa : SA W2 gA [.slice (some ⟨gat, 0, none⟩) (atTo ps n).length N, .slice (some ⟨gow, 0, none⟩) (owTo ps n).length N, .slice (some ⟨gfi, 0, none⟩) (fiTo ps n).length n, grp, .slice (some ⟨gfo, 0, none⟩) (foTo ps n).length n, .bool (clTo ps n), cv,
    .slice (some ⟨W1.heap.size, 0, none⟩) (atTo ps n).length (atTo ps n).length, .slice none 0 0, .slice none 0 0, .int .u32 0]
  rat : RowN W2 gat 21 N (atTo ps n).length (fun i => .int .i32 (iat (atTo ps n) i))
  row : RowN W2 gow 3 N (owTo ps n).length (fun i => .int .i64 (iat (owTo ps n) i))
  rfi : RowN W2 gfi 3 n (fiTo ps n).length (fun i => .int .i64 (iat (fiTo ps n) i))
  rfo : RowN W2 gfo 4 n (foTo ps n).length (fun i => .bool (bat (foTo ps n) i))
  cut : CutVal W2 gA W1.heap.size (atTo ps n) (fiTo ps n) (owTo ps n) cv
  mark : RowN W2 W1.heap.size 44 (atTo ps n).length (atTo ps n).length (fun _ => .int .u32 0)

theorem mid_mk {w0 W1 : World} {B n gA gat gow gfi gfo N mm : Nat} {ps : List Pat} {grp : Value} {cv : Value} {W : World} (ly : Lay B gA gat gow gfi gfo)
    (st : CS w0 B gA gat gow gfi gfo N n grp W (atTo ps n) (owTo ps n) (fiTo ps n) (foTo ps n) (clTo ps n)) (hb : Below W.heap.size W W1)
    (hcv : (fields (atTo ps n) = false ∧ cv = .slice none 0 0) ∨ (fields (atTo ps n) = true ∧ ∃ g, W.heap.size ≤ g ∧ cv = .slice (some ⟨g, 0, none⟩) (atTo ps n).length (atTo ps n).length ∧ RowN W1 g 3 (atTo ps n).length (atTo ps n).length (fun i => .int .i64 (cutAt (atTo ps n) (fiTo ps n) (owTo ps n) i))))
    (hmm : mm = (atTo ps n).length) :
    Mid w0 W1 B n gA mm ps grp cv gat gow gfi gfo N (((W1.setCell ⟨gA, 6, none⟩ cv).setCell ⟨gA, 7, none⟩ (.slice (some ⟨W1.heap.size, 0, none⟩) mm mm)).alloc (.cells (zeros (.int .u32 0) mm) 44)) := by
  subst hmm
  have hA := st.ltA
  have hsz := hb.size
  have bA : B ≤ gA := by have := ly.b1; have := ly.l1; omega
  have hbA : Below B w0 W1 := st.below.trans (hb.mono (by omega))
  have l1 := ly.l1; have l2 := ly.l2; have l3 := ly.l3; have l4 := ly.l4
  have sz : ∀ (X : World) (p : Addr) (v : Value), (X.setCell p v).heap.size = X.heap.size := fun X p v => by simp [World.setCell]
  obtain ⟨X, hX⟩ : ∃ X, X = (W1.setCell ⟨gA, 6, none⟩ cv).setCell ⟨gA, 7, none⟩ (.slice (some ⟨W1.heap.size, 0, none⟩) (atTo ps n).length (atTo ps n).length) := ⟨_, rfl⟩
  have hXs : X.heap.size = W1.heap.size := by rw [hX, sz, sz]
  have hoth : ∀ {g : Nat} {e : TypeId} {N' j : Nat} {f : Nat → Value}, RowN W1 g e N' j f → g ≠ gA → RowN X g e N' j f := fun h hg => by
    rw [hX]; exact (h.setOther hg _).setOther hg _
  have s0 : SA W1 gA _ := st.sa.of_block (hb.block gA hA)
  have s4 := (s0.set rfl 6 cv (by omega)).set (by simp) 7 (.slice (some ⟨W1.heap.size, 0, none⟩) (atTo ps n).length (atTo ps n).length) (by omega)
  have hbX : Below B w0 X := by rw [hX]; exact (hbA.setCell bA _).setCell bA _
  rw [← hX] at s4 ⊢
  clear hX
  refine ⟨hbX.alloc (by omega) _, by rw [World.size_alloc, hXs], by omega, ?_, (hoth (st.rat.below hb (by omega)) (by omega)).alloc _, (hoth (st.row.below hb (by omega)) (by omega)).alloc _, (hoth (st.rfi.below hb (by omega)) (by omega)).alloc _, (hoth (st.rfo.below hb (by omega)) (by omega)).alloc _, ?_, ?_⟩
  · have := SA.of_block (w' := X.alloc (.cells (zeros (.int .u32 0) (atTo ps n).length) 44)) s4 (Below.heap_alloc _ _ _ (by omega))
    simpa using this
  · rcases hcv with h | ⟨h, g, hg, hv, hr⟩
    · exact .inl h
    · have hg2 := hr.lt
      exact .inr ⟨h, g, by omega, by omega, hv, (hoth hr (by omega)).alloc _⟩
  · have h := RowN.zero X (.int .u32 0) rfl 44 (atTo ps n).length
    rw [hXs] at h
    exact h

/-- The last stores of compile. -/
theorem auto_mk {w0 W1 W2 : World} {B n gA gat gow gfi gfo N mm cc : Nat} {ps : List Pat} {grp : Value} {gs : List Int} {cv : Value} (ly : Lay B gA gat gow gfi gfo)
    (md : Mid w0 W1 B n gA mm ps grp cv gat gow gfi gfo N W2) (hcc : cc = gcount gs) :
    Auto B n ps grp gs gA gat gow gfi gfo W1.heap.size W2.heap.size (W2.heap.size + 1) N cv 0
      ((((W2.setCell ⟨gA, 8, none⟩ (.slice (some ⟨W2.heap.size, 0, none⟩) cc cc)).setCell ⟨gA, 9, none⟩ (.slice (some ⟨W2.heap.size + 1, 0, none⟩) cc cc)).alloc (.cells (zeros (.int .u32 0) cc) 44)).alloc (.cells (zeros (.int .i64 0) cc) 3)) ∧
    Below B w0 ((((W2.setCell ⟨gA, 8, none⟩ (.slice (some ⟨W2.heap.size, 0, none⟩) cc cc)).setCell ⟨gA, 9, none⟩ (.slice (some ⟨W2.heap.size + 1, 0, none⟩) cc cc)).alloc (.cells (zeros (.int .u32 0) cc) 44)).alloc (.cells (zeros (.int .i64 0) cc) 3)) := by
  subst hcc
  have hA := md.ltA
  have hs := md.size
  have bA : B ≤ gA := by have := ly.b1; have := ly.l1; omega
  have l1 := ly.l1; have l2 := ly.l2; have l3 := ly.l3; have l4 := ly.l4
  have sz : ∀ (X : World) (p : Addr) (v : Value), (X.setCell p v).heap.size = X.heap.size := fun X p v => by simp [World.setCell]
  obtain ⟨X, hX⟩ : ∃ X, X = (W2.setCell ⟨gA, 8, none⟩ (.slice (some ⟨W2.heap.size, 0, none⟩) (gcount gs) (gcount gs))).setCell ⟨gA, 9, none⟩ (.slice (some ⟨W2.heap.size + 1, 0, none⟩) (gcount gs) (gcount gs)) := ⟨_, rfl⟩
  have hXs : X.heap.size = W2.heap.size := by rw [hX, sz, sz]
  have hoth : ∀ {g : Nat} {e : TypeId} {N' j : Nat} {f : Nat → Value}, RowN W2 g e N' j f → g ≠ gA → RowN X g e N' j f := fun h hg => by
    rw [hX]; exact (h.setOther hg _).setOther hg _
  have s4 := (md.sa.set rfl 8 (.slice (some ⟨W2.heap.size, 0, none⟩) (gcount gs) (gcount gs)) (by omega)).set (by simp) 9 (.slice (some ⟨W2.heap.size + 1, 0, none⟩) (gcount gs) (gcount gs)) (by omega)
  have hbX : Below B w0 X := by rw [hX]; exact (md.below.setCell bA _).setCell bA _
  rw [← hX] at s4 ⊢
  clear hX
  refine ⟨⟨ly, by omega, by omega, by omega, ?_, ((hoth md.rat (by omega)).alloc _).alloc _, ((hoth md.row (by omega)).alloc _).alloc _, ((hoth md.rfi (by omega)).alloc _).alloc _, ((hoth md.rfo (by omega)).alloc _).alloc _, ?_, ((hoth md.mark (by omega)).alloc _).alloc _, ?_, ?_⟩, ?_⟩
  · have := SA.of_block (w' := ((X.alloc (.cells (zeros (.int .u32 0) (gcount gs)) 44)).alloc (.cells (zeros (.int .i64 0) (gcount gs)) 3))) s4 (by
      rw [Below.heap_alloc _ _ _ (by simp; omega), Below.heap_alloc _ _ _ (by omega)])
    simpa using this
  · rcases md.cut with h | ⟨h, g, hg1, hg2, hv, hr⟩
    · exact .inl h
    · exact .inr ⟨h, g, hg1, hg2, hv, ((hoth hr (by omega)).alloc _).alloc _⟩
  · have h := RowN.zero X (.int .u32 0) rfl 44 (gcount gs)
    rw [hXs] at h
    exact h.alloc _
  · have h := RowN.zero (X.alloc (.cells (zeros (.int .u32 0) (gcount gs)) 44)) (.int .i64 0) rfl 3 (gcount gs)
    rw [World.size_alloc, hXs] at h
    exact h
  · exact (hbX.alloc (by have := md.below.size; have := ly.b1; omega) _).alloc (by rw [World.size_alloc]; omega) _

/-! ### What compile's literal lays -/
section
variable (w : World) (o1 o2 o3 o4 o5 : Obj)
theorem five_heap : (((((w.alloc o1).alloc o2).alloc o3).alloc o4).alloc o5).heap = ((((w.heap.push o1).push o2).push o3).push o4).push o5 := rfl
theorem five0 : (((((w.alloc o1).alloc o2).alloc o3).alloc o4).alloc o5).heap[w.heap.size]? = some o1 := by
  rw [five_heap]; simp only [Array.getElem?_push, Array.size_push]; rw [if_neg (by omega), if_neg (by omega), if_neg (by omega), if_neg (by omega), if_pos trivial]
theorem five1 : (((((w.alloc o1).alloc o2).alloc o3).alloc o4).alloc o5).heap[w.heap.size + 1]? = some o2 := by
  rw [five_heap]; simp only [Array.getElem?_push, Array.size_push]; rw [if_neg (by omega), if_neg (by omega), if_neg (by omega), if_pos trivial]
theorem five2 : (((((w.alloc o1).alloc o2).alloc o3).alloc o4).alloc o5).heap[w.heap.size + 1 + 1]? = some o3 := by
  rw [five_heap]; simp only [Array.getElem?_push, Array.size_push]; rw [if_neg (by omega), if_neg (by omega), if_pos trivial]
theorem five3 : (((((w.alloc o1).alloc o2).alloc o3).alloc o4).alloc o5).heap[w.heap.size + 1 + 1 + 1]? = some o4 := by
  rw [five_heap]; simp only [Array.getElem?_push, Array.size_push]; rw [if_neg (by omega), if_pos trivial]
theorem five4 : (((((w.alloc o1).alloc o2).alloc o3).alloc o4).alloc o5).heap[w.heap.size + 1 + 1 + 1 + 1]? = some o5 := by
  rw [five_heap]; simp only [Array.getElem?_push, Array.size_push]; rw [if_pos trivial]
theorem five_below {w0 : World} {B : Nat} (h : Below B w0 w) (hB : B ≤ w.heap.size) : Below B w0 (((((w.alloc o1).alloc o2).alloc o3).alloc o4).alloc o5) :=
  ((((h.alloc hB _).alloc (by simp; omega) _).alloc (by simp; omega) _).alloc (by simp; omega) _).alloc (by simp; omega) _
end

def Laid (w0 : World) (B N n : Nat) (grp s8 : Value) (w : World) : Prop :=
  ∃ gA gat gow gfi gfo, s8 = .pointer (some ⟨gA, 0, none⟩) ∧ Lay B gA gat gow gfi gfo ∧ CS w0 B gA gat gow gfi gfo N n grp w [] [] [] [] true
theorem row_zeros {w : World} {g n : Nat} {z : Value} {e : TypeId} (h : w.heap[g]? = some (.cells (zeros z n) e (0, 0))) (f : Nat → Value) : RowN w g e n 0 f := by
  have hs : (zeros z n).size = n := size_madeCells _ _
  refine ⟨fun i => ((zeros z n)[i]?).getD z, ⟨_, h, hs, fun i hi => ?_⟩, fun i hi => by omega⟩
  have hi' : i < (zeros z n).size := by omega
  simp [hi']
theorem laid_mk {w0 W : World} {B N n gA gat gow gfi gfo : Nat} {grp : Value} (hat : W.heap[gat]? = some (.cells (zeros (.int .i32 0) N) 21 (0, 0))) (how : W.heap[gow]? = some (.cells (zeros (.int .i64 0) N) 3 (0, 0)))
    (hfi : W.heap[gfi]? = some (.cells (zeros (.int .i64 0) n) 3 (0, 0))) (hfo : W.heap[gfo]? = some (.cells (zeros (.bool false) n) 4 (0, 0)))
    (hA : W.heap[gA]? = some (.cells #[.slice (some ⟨gat, 0, none⟩) 0 N, .slice (some ⟨gow, 0, none⟩) 0 N, .slice (some ⟨gfi, 0, none⟩) 0 n, grp, .slice (some ⟨gfo, 0, none⟩) 0 n, .bool true, .slice none 0 0, .slice none 0 0, .slice none 0 0, .slice none 0 0, .int .u32 0] 71 (0, 0)))
    (ly : Lay B gA gat gow gfi gfo) (hb : Below B w0 W) : Laid w0 B N n grp (.pointer (some ⟨gA, 0, none⟩)) W := by
  refine ⟨gA, gat, gow, gfi, gfo, rfl, ly, hb, ?_, row_zeros hat _, row_zeros how _, row_zeros hfi _, row_zeros hfo _⟩
  refine ⟨_, hA, rfl, fun i hi => ?_⟩
  match i, hi with
  | 0, _ => rfl
  | 1, _ => rfl
  | 2, _ => rfl
  | 3, _ => rfl
  | 4, _ => rfl
  | 5, _ => rfl
  | 6, _ => rfl
  | 7, _ => rfl
  | 8, _ => rfl
  | 9, _ => rfl
  | 10, _ => rfl

end Go.Proofs.Qxb6601200a
