import Derived.Test.Qxb6601200aPrPlain
import Derived.Test.Qxb6601200aCState
set_option linter.unusedSimpArgs false
set_option linter.unusedVariables false
namespace Go.Proofs.Qxb6601200a
open Go.RowKit

theorem cell_lt {w : World} {a : Addr} {v : Value} (h : w.cell? a = some v) : a.block < w.heap.size := by
  rcases Nat.lt_or_ge a.block w.heap.size with e | e
  · exact e
  · unfold World.cell? at h
    rw [Array.getElem?_eq_none e] at h
    cases h

/-- All but three blocks are as they were. -/
structure Chg (x y z : Nat) (w w' : World) : Prop where
  os : w'.os = w.os
  tape : w'.tape = w.tape
  output : w'.output = w.output
  size : w.heap.size ≤ w'.heap.size
  block : ∀ k, k < w.heap.size → k ≠ x → k ≠ y → k ≠ z → w'.heap[k]? = w.heap[k]?
theorem Chg.refl (x y z : Nat) (w : World) : Chg x y z w w := ⟨rfl, rfl, rfl, Nat.le_refl _, fun _ _ _ _ _ => rfl⟩
theorem Chg.drewN {x y z : Nat} {w w' : World} (h : Chg x y z w w') (m : Nat) : Chg x y z w (w'.drewN m) := by
  have := below_drewN (B := 0) (Below.refl 0 w') m
  refine ⟨this.os.trans h.os, this.tape.trans h.tape, this.output.trans h.output, Nat.le_trans h.size this.size, fun k h1 h2 h3 h4 => ?_⟩
  rw [← h.block k h1 h2 h3 h4]; rfl
theorem Chg.alloc {x y z : Nat} {w w' : World} (h : Chg x y z w w') (o : Obj) : Chg x y z w (w'.alloc o) := by
  refine ⟨h.os, h.tape, h.output, by have := h.size; simp; omega, fun k h1 h2 h3 h4 => ?_⟩
  rw [Below.heap_alloc _ _ _ (by have := h.size; omega)]; exact h.block k h1 h2 h3 h4
theorem Chg.setCell {x y z : Nat} {w w' : World} (h : Chg x y z w w') {a : Addr} (ha : a.block = x ∨ a.block = y ∨ a.block = z) (u : Value) : Chg x y z w (w'.setCell a u) := by
  refine ⟨h.os, h.tape, h.output, by have := h.size; simpa [World.setCell] using this, fun k h1 h2 h3 h4 => ?_⟩
  rw [Below.heap_setCell _ _ _ _ (by omega)]; exact h.block k h1 h2 h3 h4

/-- Where prune's matter lies, and what it means. -/
structure PEnv where
  mm : Nat
  mg : Nat
  n : Nat
  gc : Nat
  m : Nat
  gA : Nat
  gat : Nat
  gow : Nat
  gse : Nat
  gwh : Nat
  gp : Nat
  N : Nat
  gcap : Nat
  cl : Nat
  cc : Nat
  ga : Option Addr
  acu : Option Addr
  tk : Nat → Int
  cu : Nat → Int
  ow : Nat → Nat
  gr : Nat → Nat
structure PBd (E : PEnv) : Prop where
  mm : E.mm ≤ 4194304
  mg : E.mg ≤ 1048576
  nmg : E.n ≤ E.mg
  gc : E.gc ≤ 1048576
  m : E.m ≤ 1048576
  own : ∀ i, i < E.mm → E.ow i < E.n
  grp : ∀ p, p < E.n → E.gr p < E.gc
  last : ∀ i, i < E.mm → E.tk i = -2 → i + 1 < E.mm
  mono : ∀ i j, i ≤ j → j < E.mm → E.ow i ≤ E.ow j
  n1 : E.gse ≠ E.gwh
  n2 : E.gp ≠ E.gse
  n3 : E.gp ≠ E.gwh
  a1 : E.gA ≠ E.gse
  a2 : E.gA ≠ E.gwh
  a3 : E.gA ≠ E.gp
  t1 : E.gat ≠ E.gse
  t2 : E.gat ≠ E.gwh
  t3 : E.gat ≠ E.gp
  o1 : E.gow ≠ E.gse
  o2 : E.gow ≠ E.gwh
  o3 : E.gow ≠ E.gp
def Free (E : PEnv) (b : Nat) : Prop := b ≠ E.gse ∧ b ≠ E.gwh ∧ b ≠ E.gp
structure PIn (E : PEnv) (W : World) : Prop where
  c0 : W.cell? ⟨E.gA, 0, none⟩ = some (.slice (some ⟨E.gat, 0, none⟩) E.mm E.N)
  c1 : W.cell? ⟨E.gA, 1, none⟩ = some (.slice (some ⟨E.gow, 0, none⟩) E.mm E.N)
  c3 : W.cell? ⟨E.gA, 3, none⟩ = some (.slice E.ga E.mg E.gcap)
  c6 : W.cell? ⟨E.gA, 6, none⟩ = some (.slice E.acu E.cl E.cc)
  c8 : W.cell? ⟨E.gA, 8, none⟩ = some (.slice (some ⟨E.gse, 0, none⟩) E.gc E.gc)
  c9 : W.cell? ⟨E.gA, 9, none⟩ = some (.slice (some ⟨E.gwh, 0, none⟩) E.gc E.gc)
  c10 : W.cell? ⟨E.gA, 10, none⟩ = some (.int .u32 1)
  at' : ∀ i, i < E.mm → W.cell? ⟨E.gat, i, none⟩ = some (.int .i32 (E.tk i))
  ow : ∀ i, i < E.mm → W.cell? ⟨E.gow, i, none⟩ = some (.int .i64 ((E.ow i : Nat) : Int))
  gr : ∀ p, p < E.n → ∃ b off, E.ga = some ⟨b, off, none⟩ ∧ Free E b ∧ W.cell? ⟨b, off + p, none⟩ = some (.int .i64 ((E.gr p : Nat) : Int))
  cu : ∀ i, i < E.mm → E.tk i = -5 → E.cl = E.mm ∧ ∃ b off, E.acu = some ⟨b, off, none⟩ ∧ Free E b ∧ W.cell? ⟨b, off + i, none⟩ = some (.int .i64 (E.cu i))
theorem keepCell {E : PEnv} {W W' : World} (hk : ∀ k, k < W.heap.size → k ≠ E.gse → k ≠ E.gwh → k ≠ E.gp → W'.heap[k]? = W.heap[k]?) {a : Addr} {v : Value} (h : W.cell? a = some v) (h1 : a.block ≠ E.gse) (h2 : a.block ≠ E.gwh) (h3 : a.block ≠ E.gp) : W'.cell? a = some v :=
  (World.cell?_of_block (w := W) (hk a.block (cell_lt h) h1 h2 h3)).trans h
theorem PIn.mono {E : PEnv} {W W' : World} (bd : PBd E) (h : PIn E W) (hk : ∀ k, k < W.heap.size → k ≠ E.gse → k ≠ E.gwh → k ≠ E.gp → W'.heap[k]? = W.heap[k]?) : PIn E W' := by
  refine ⟨keepCell hk h.c0 bd.a1 bd.a2 bd.a3, keepCell hk h.c1 bd.a1 bd.a2 bd.a3, keepCell hk h.c3 bd.a1 bd.a2 bd.a3, keepCell hk h.c6 bd.a1 bd.a2 bd.a3, keepCell hk h.c8 bd.a1 bd.a2 bd.a3, keepCell hk h.c9 bd.a1 bd.a2 bd.a3, keepCell hk h.c10 bd.a1 bd.a2 bd.a3,
    fun i hi => keepCell hk (h.at' i hi) bd.t1 bd.t2 bd.t3, fun i hi => keepCell hk (h.ow i hi) bd.o1 bd.o2 bd.o3, fun p hp => ?_, fun i hi ht => ?_⟩
  · obtain ⟨b, off, e, hf, hc⟩ := h.gr p hp
    exact ⟨b, off, e, hf, keepCell hk hc hf.1 hf.2.1 hf.2.2⟩
  · obtain ⟨e0, b, off, e, hf, hc⟩ := h.cu i hi ht
    exact ⟨e0, b, off, e, hf, keepCell hk hc hf.1 hf.2.1 hf.2.2⟩

/-- The world in prune's loops. -/
structure PSt (E : PEnv) (W0 : World) (S Wf : Nat → Int) (A : Nat → Nat) (W : World) : Prop where
  pin : PIn E W
  chg : Chg E.gse E.gwh E.gp W0 W
  se : RowN W E.gse 44 E.gc E.gc (fun g => .int .u32 (S g))
  wh : RowN W E.gwh 3 E.gc E.gc (fun g => .int .i64 (Wf g))
  po : RowN W E.gp 3 E.m E.m (fun i => .int .i64 ((A i : Nat) : Int))
def updI (A : Nat → Int) (k : Nat) (v : Int) (i : Nat) : Int := if i = k then v else A i
theorem RowN.upd {w : World} {g : Nat} {e : TypeId} {n : Nat} {f f' : Nat → Value} {j : Nat} {v : Value} (h : RowN w g e n n f) (hf : ∀ i, i < n → f' i = if i = j then v else f i) : RowN (w.setCell ⟨g, j, none⟩ v) g e n n f' := by
  obtain ⟨F, hF, hc⟩ := h
  refine ⟨_, hF.set j v, fun i hi => ?_⟩
  rw [hf i hi]
  by_cases e : i = j
  · simp [e]
  · simp [e, hc i hi]
section
variable {E : PEnv} {W0 W : World} {S Wf : Nat → Int} {A : Nat → Nat}
theorem PSt.drewN (h : PSt E W0 S Wf A W) (bd : PBd E) (k : Nat) : PSt E W0 S Wf A (W.drewN k) :=
  ⟨h.pin.mono bd (fun _ _ _ _ _ => rfl), h.chg.drewN k, h.se.drewN k, h.wh.drewN k, h.po.drewN k⟩
theorem PSt.alloc (h : PSt E W0 S Wf A W) (bd : PBd E) (o : Obj) : PSt E W0 S Wf A (W.alloc o) :=
  ⟨h.pin.mono bd (fun _ hk _ _ _ => Below.heap_alloc _ _ _ hk), h.chg.alloc o, h.se.alloc o, h.wh.alloc o, h.po.alloc o⟩
theorem PSt.setSe (h : PSt E W0 S Wf A W) (bd : PBd E) (g : Nat) (v : Int) : PSt E W0 (updI S g v) Wf A (W.setCell ⟨E.gse, g, none⟩ (.int .u32 v)) :=
  ⟨h.pin.mono bd (fun _ _ hk _ _ => Below.heap_setCell _ _ _ _ hk), h.chg.setCell (.inl rfl) _, h.se.upd (fun i hi => by unfold updI; split <;> rfl), h.wh.setOther (Ne.symm bd.n1) _, h.po.setOther bd.n2 _⟩
theorem PSt.setWh (h : PSt E W0 S Wf A W) (bd : PBd E) (g : Nat) (v : Int) : PSt E W0 S (updI Wf g v) A (W.setCell ⟨E.gwh, g, none⟩ (.int .i64 v)) :=
  ⟨h.pin.mono bd (fun _ _ _ hk _ => Below.heap_setCell _ _ _ _ hk), h.chg.setCell (.inr (.inl rfl)) _, h.se.setOther bd.n1 _, h.wh.upd (fun i hi => by unfold updI; split <;> rfl), h.po.setOther bd.n3 _⟩
theorem PSt.setPo (h : PSt E W0 S Wf A W) (bd : PBd E) (k v : Nat) : PSt E W0 S Wf (upd A k v) (W.setCell ⟨E.gp, k, none⟩ (.int .i64 (v : Int))) :=
  ⟨h.pin.mono bd (fun _ _ _ _ hk => Below.heap_setCell _ _ _ _ hk), h.chg.setCell (.inr (.inr rfl)) _, h.se.setOther (Ne.symm bd.n2) _, h.wh.setOther (Ne.symm bd.n3) _, h.po.upd (fun i hi => by unfold upd; split <;> rfl)⟩
theorem PSt.congr (h : PSt E W0 S Wf A W) {S' Wf' : Nat → Int} (h1 : ∀ g, S' g = S g) (h2 : ∀ g, Wf' g = Wf g) : PSt E W0 S' Wf' A W := by
  obtain rfl : S' = S := funext h1
  obtain rfl : Wf' = Wf := funext h2
  exact h
end
end Go.Proofs.Qxb6601200a
