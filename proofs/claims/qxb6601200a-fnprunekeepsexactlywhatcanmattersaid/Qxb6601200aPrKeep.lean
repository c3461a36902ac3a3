import Derived.Test.Qxb6601200aPrLaw
set_option linter.unusedSimpArgs false
set_option linter.unusedVariables false
namespace Go.Proofs.Qxb6601200a
open Go.RowKit

/-! ### Which pattern settles a group, as the law counts it -/
def woTo (st : Nat → Bool) (gr : Nat → Nat) : Nat → Nat → Option Nat
  | 0, _ => none
  | p + 1, g => match woTo st gr p g with
    | some q => some q
    | none => if st p = true ∧ gr p = g then some p else none
def wv : Option Nat → Int
  | none => -1
  | some q => (q : Int)
theorem wo_miss {st : Nat → Bool} {gr : Nat → Nat} {p : Nat} (h : st p = false) (g : Nat) : woTo st gr (p + 1) g = woTo st gr p g := by
  simp only [woTo]
  cases woTo st gr p g with
  | some q => rfl
  | none => simp [h]
theorem wo_set {st : Nat → Bool} {gr : Nat → Nat} {p q : Nat} (h : woTo st gr p (gr p) = some q) (g : Nat) : woTo st gr (p + 1) g = woTo st gr p g := by
  simp only [woTo]
  cases e : woTo st gr p g with
  | some q => rfl
  | none =>
    simp only
    rw [if_neg]
    rintro ⟨_, e2⟩
    rw [e2, e] at h; cases h
theorem wo_new {st : Nat → Bool} {gr : Nat → Nat} {p : Nat} (hs : st p = true) (h : woTo st gr p (gr p) = none) (g : Nat) : woTo st gr (p + 1) g = if g = gr p then some p else woTo st gr p g := by
  simp only [woTo]
  by_cases e : g = gr p
  · subst e; simp [h, hs]
  · rw [if_neg e]
    cases woTo st gr p g with
    | some q => rfl
    | none => simp [Ne.symm e]
theorem wo_none_of {st : Nat → Bool} {gr : Nat → Nat} {g : Nat} : ∀ n, (∀ p, p < n → ¬ (st p = true ∧ gr p = g)) → woTo st gr n g = none
  | 0, _ => rfl
  | n + 1, h => by
    simp only [woTo]
    rw [wo_none_of n (fun p hp => h p (by omega))]
    simp only
    rw [if_neg (h n (by omega))]
theorem wo_some_of {st : Nat → Bool} {gr : Nat → Nat} {g q : Nat} (h1 : st q = true) (h2 : gr q = g) (h3 : ∀ p, p < q → ¬ (st p = true ∧ gr p = g)) : ∀ n, q < n → woTo st gr n g = some q
  | 0, h => by omega
  | n + 1, h => by
    simp only [woTo]
    by_cases e : q < n
    · rw [wo_some_of h1 h2 h3 n e]
    · obtain rfl : q = n := by omega
      rw [wo_none_of q h3]
      simp only
      rw [if_pos ⟨h1, h2⟩]

/-- Does pattern p close with a star that is in the set? -/
def stB (ps : List Pat) (n : Nat) (L : List Nat) (p : Nat) : Bool := decide (0 < (tokI ps p).length) && (tkF ps n (startOf ps (p + 1) - 2) == -2 && decide (startOf ps (p + 1) - 2 ∈ L))
theorem tok_ne (ps : List Pat) (p j : Nat) (hj : j < (tokI ps p).length) : iat (tokI ps p) j ≠ -1 := by
  have hstep : ∀ (lit : Bool) (s : Bool × List Int) (r : Int), 0 ≤ r → (∀ t ∈ s.2, t ≠ -1) → ∀ t ∈ (tstep lit s r).2, t ≠ -1 := by
    intro lit s r hr hs t ht
    unfold tstep at ht
    repeat' split at ht
    all_goals first
      | exact hs t ht
      | (simp only [List.mem_append, List.mem_cons, List.not_mem_nil, or_false] at ht; rcases ht with ht | ht; exact hs t ht; omega)
  have hfold : ∀ (lit : Bool) (rs : List Int) (s : Bool × List Int), (∀ r ∈ rs, 0 ≤ r) → (∀ t ∈ s.2, t ≠ -1) → ∀ t ∈ (rs.foldl (tstep lit) s).2, t ≠ -1 := by
    intro lit rs
    induction rs with
    | nil => intro s _ hs; exact hs
    | cons r rs ih =>
      intro s hr hs
      rw [List.foldl_cons]
      exact ih _ (fun q hq => hr q (List.mem_cons_of_mem _ hq)) (hstep lit s r (hr r (List.mem_cons_self)) hs)
  have hnn : ∀ (s : ByteArray) (f pos : Nat), ∀ r ∈ runesAt s f pos, 0 ≤ r := by
    intro s f
    induction f with
    | zero => intro pos r hr; simp [runesAt] at hr
    | succ f ih =>
      intro pos r hr
      simp only [runesAt] at hr
      split at hr
      · simp only [List.mem_cons] at hr
        rcases hr with hr | hr
        · omega
        · exact ih _ r hr
      · simp at hr
  exact hfold _ _ _ (hnn _ _ _) (fun t ht => by simp at ht) _ (iat_mem hj)
theorem close_of_cstar (ps : List Pat) (n i : Nat) (h : i < (atTo ps n).length) (hc : cstar (tkF ps n) i = true) : i + 2 = startOf ps (owF ps n i + 1) := by
  unfold cstar at hc
  rw [Bool.and_eq_true, beq_iff_eq, beq_iff_eq] at hc
  have h1 := owF_spec ps n i h
  have h2 := startOf_succ ps (owF ps n i)
  have h3 := tk_last ps n i h hc.1
  rcases Nat.lt_or_ge (i + 2) (startOf ps (owF ps n i + 1)) with h4 | h4
  · have e := atTo_at ps n (owF ps n i) (i + 1 - startOf ps (owF ps n i)) h1.1 (by omega)
    rw [show startOf ps (owF ps n i) + (i + 1 - startOf ps (owF ps n i)) = i + 1 by omega] at e
    have e2 := hc.2
    unfold tkF at e2
    rw [e] at e2
    exact absurd e2 (tok_ne ps _ _ (by omega))
  · omega
theorem cstar_of_close (ps : List Pat) (n p : Nat) (hp : p < n) (ht : 0 < (tokI ps p).length) (h2 : tkF ps n (startOf ps (p + 1) - 2) = -2) :
    cstar (tkF ps n) (startOf ps (p + 1) - 2) = true ∧ owF ps n (startOf ps (p + 1) - 2) = p := by
  have hs := startOf_succ ps p
  have hl := start_le ps n p hp
  constructor
  · unfold cstar
    rw [h2]
    have e := atTo_end ps n p hp
    have : tkF ps n (startOf ps (p + 1) - 2 + 1) = -1 := by
      unfold tkF
      rw [show startOf ps (p + 1) - 2 + 1 = startOf ps p + (tokI ps p).length by omega]; exact e
    rw [this]; rfl
  · unfold owF
    rw [owTo_at ps n (startOf ps (p + 1) - 2) p hp (by omega) (by omega)]; rfl
theorem wo_eq_wh (ps : List Pat) (gs : List Int) (n : Nat) (L : List Nat) (hinc : Incs L) (hlt : ∀ k, k < L.length → nat L k < (atTo ps n).length) (g : Nat) :
    woTo (stB ps n L) (grF gs) n g = whTo (tkF ps n) (owF ps n) (grF gs) L L.length g := by
  have hst : ∀ p, p < n → stB ps n L p = true → ∃ b, b < L.length ∧ nat L b = startOf ps (p + 1) - 2 ∧ cstar (tkF ps n) (nat L b) = true ∧ owF ps n (nat L b) = p := by
    intro p hp hs
    unfold stB at hs
    rw [Bool.and_eq_true, Bool.and_eq_true, decide_eq_true_eq, beq_iff_eq, decide_eq_true_eq] at hs
    obtain ⟨b, hb, e⟩ := mem_nat hs.2.2
    have := cstar_of_close ps n p hp hs.1 hs.2.1
    exact ⟨b, hb, e, by rw [e]; exact this.1, by rw [e]; exact this.2⟩
  cases hw : whTo (tkF ps n) (owF ps n) (grF gs) L L.length g with
  | none =>
    refine wo_none_of n fun p hp hs => ?_
    obtain ⟨b, hb, e1, e2, e3⟩ := hst p hp hs.1
    exact wh_none _ hw b hb ⟨e2, by rw [e3]; exact hs.2⟩
  | some q =>
    obtain ⟨a, ha, h1, h2, h3, h4⟩ := wh_some _ hw
    have hx := hlt a ha
    have ho := owF_spec ps n _ hx
    rw [h3] at ho
    have hcl := close_of_cstar ps n _ hx h1
    rw [h3] at hcl
    refine wo_some_of ?_ (by rw [← h3]; exact h2) (fun p hp hs => ?_) n ho.1
    · unfold stB
      have e : startOf ps (q + 1) - 2 = nat L a := by omega
      rw [e]
      have hss := startOf_succ ps q
      have h5 : tkF ps n (nat L a) = -2 := by
        unfold cstar at h1; rw [Bool.and_eq_true, beq_iff_eq] at h1; exact h1.1
      rw [h5]
      simp only [Bool.and_eq_true, decide_eq_true_eq]
      exact ⟨by omega, by rfl, nat_mem ha⟩
    · obtain ⟨b, hb, e1, e2, e3⟩ := hst p (by omega) hs.1
      have hba : b < a := by
        rcases Nat.lt_or_ge b a with c | c
        · exact c
        · have := owF_mono ps n _ _ (hinc.le c hb) (hlt b hb)
          rw [h3, e3] at this
          omega
      exact h4 b hba ⟨e2, by rw [e3]; exact hs.2⟩

/-! ### The law's walk down the positions -/
section
variable (tk : Nat → Int) (ow : Nat → Nat) (cu : Nat → Int) (mm : Nat)
def stt : List Nat → Int × Bool × Int
  | [] => (-1, false, (mm : Int))
  | x :: r => ((ow x : Int), (if (ow x : Int) = (stt r).1 then (stt r).2.1 else false) || tk x == -2,
      if (tk x == -5) = true ∧ cu x < (if (ow x : Int) = (stt r).1 then (stt r).2.2 else (mm : Int)) then cu x else (if (ow x : Int) = (stt r).1 then (stt r).2.2 else (mm : Int)))
def ssAt (p : Nat) (r : List Nat) : Bool := if (p : Int) = (stt tk ow cu mm r).1 then (stt tk ow cu mm r).2.1 else false
def mcAt (p : Nat) (r : List Nat) : Int := if (p : Int) = (stt tk ow cu mm r).1 then (stt tk ow cu mm r).2.2 else (mm : Int)
theorem stt_cons (x : Nat) (r : List Nat) : stt tk ow cu mm (x :: r) = ((ow x : Int), ssAt tk ow cu mm (ow x) r || tk x == -2, if (tk x == -5) = true ∧ cu x < mcAt tk ow cu mm (ow x) r then cu x else mcAt tk ow cu mm (ow x) r) := rfl
theorem stt_law (x : Nat) (hx : x ≤ mm) : ∀ (r : List Nat) (p : Nat), (r.Pairwise fun a b => ow a ≤ ow b) → (∀ y ∈ r, p ≤ ow y) →
    (!(ssAt tk ow cu mm p r) && decide ((x : Int) ≤ mcAt tk ow cu mm p r)) = r.all fun y => !(ow y == p) || cond tk cu y x
  | [], p, _, _ => by
    have : ¬ ((p : Int) = -1) := by omega
    simp [ssAt, mcAt, stt, this]; omega
  | y :: r, p, hm, hp => by
    have hm1 := List.pairwise_cons.1 hm
    by_cases e : p = ow y
    · have ih := stt_law x hx r p hm1.2 (fun z hz => hp z (List.mem_cons_of_mem _ hz))
      rw [List.all_cons, ← ih]
      have e1 : ssAt tk ow cu mm p (y :: r) = (ssAt tk ow cu mm p r || tk y == -2) := by
        unfold ssAt
        rw [stt_cons, if_pos (by rw [e]), ← e]; rfl
      have e2 : mcAt tk ow cu mm p (y :: r) = if (tk y == -5) = true ∧ cu y < mcAt tk ow cu mm p r then cu y else mcAt tk ow cu mm p r := by
        conv => lhs; unfold mcAt
        rw [stt_cons, if_pos (by rw [e]), ← e]
      rw [e1, e2]
      have e3 : (ow y == p) = true := by simp [e]
      rw [e3]
      unfold cond
      generalize ssAt tk ow cu mm p r = ss
      generalize mcAt tk ow cu mm p r = mc
      cases h2 : (tk y == -2) with
      | true => simp [bne, h2]
      | false =>
        cases h5 : (tk y == -5) with
        | false => simp [bne, h2, h5]
        | true =>
          cases ss with
          | true => simp
          | false =>
            by_cases hc : cu y < mc
            · simp only [bne, h2, h5, hc, Bool.not_false, Bool.true_and, Bool.not_true, Bool.false_or, Bool.or_false, and_self, if_true]
              rw [Bool.eq_iff_iff]
              simp only [Bool.and_eq_true, decide_eq_true_eq]
              omega
            · simp only [bne, h2, h5, hc, Bool.not_false, Bool.true_and, Bool.not_true, Bool.false_or, Bool.or_false, and_false, if_false]
              rw [Bool.eq_iff_iff]
              simp only [Bool.and_eq_true, decide_eq_true_eq]
              omega
    · have hlt : p < ow y := by have := hp y (List.mem_cons_self); omega
      have e1 : ssAt tk ow cu mm p (y :: r) = false := by
        unfold ssAt
        rw [stt_cons, if_neg (by simp only; omega)]
      have e2 : mcAt tk ow cu mm p (y :: r) = (mm : Int) := by
        unfold mcAt
        rw [stt_cons, if_neg (by simp only; omega)]
      rw [e1, e2]
      have e3 : ((y :: r).all fun y => !(ow y == p) || cond tk cu y x) = true := by
        rw [List.all_eq_true]
        intro z hz
        have : p < ow z := by
          rcases List.mem_cons.1 hz with h | h
          · subst h; exact hlt
          · have := hm1.1 z h; omega
        have e4 : (ow z == p) = false := by simp; omega
        simp [e4]
      rw [e3]
      simp; omega
theorem drop_nat {L : List Nat} {c : Nat} (h : c < L.length) : L.drop c = nat L c :: L.drop (c + 1) := by
  rw [List.drop_eq_getElem_cons h, nat_get h]
variable {tk ow cu mm} in
theorem survB_stt {L : List Nat} (hinc : Incs L) (hlt : ∀ k, k < L.length → nat L k < mm) (hmono : ∀ i j, i ≤ j → j < mm → ow i ≤ ow j) {c : Nat} (hc : c < L.length) :
    survB tk ow cu L (nat L c) = (!(ssAt tk ow cu mm (ow (nat L c)) (L.drop (c + 1))) && decide (((nat L c : Nat) : Int) ≤ mcAt tk ow cu mm (ow (nat L c)) (L.drop (c + 1)))) := by
  have hdn : ∀ j, nat (L.drop (c + 1)) j = nat L (c + 1 + j) := fun j => by simp [nat]
  rw [stt_law tk ow cu mm (nat L c) (Nat.le_of_lt (hlt c hc)) (L.drop (c + 1)) (ow (nat L c)) ?_ ?_]
  · rw [Bool.eq_iff_iff]
    simp only [survB, List.all_eq_true]
    constructor
    · intro h y hy
      obtain ⟨j, hj, rfl⟩ := mem_nat hy
      rw [List.length_drop] at hj
      rw [hdn]
      have h1 := h _ (nat_mem (L := L) (k := c + 1 + j) (by omega))
      have h2 := hinc c (c + 1 + j) (by omega) (by omega)
      simpa [h2] using h1
    · intro h y hy
      obtain ⟨b, hb, rfl⟩ := mem_nat hy
      by_cases hcb : c < b
      · have h1 := h _ (show nat L b ∈ L.drop (c + 1) by
          have := nat_mem (L := L.drop (c + 1)) (k := b - (c + 1)) (by rw [List.length_drop]; omega)
          rw [hdn, show c + 1 + (b - (c + 1)) = b by omega] at this
          exact this)
        have h2 := hinc c b hcb hb
        simpa [h2] using h1
      · have h2 := hinc.le (a := b) (b := c) (by omega) hc
        simp; left; left; omega
  · rw [List.pairwise_iff_getElem]
    intro i j hi hj hij
    rw [List.length_drop] at hi hj
    simp only [List.getElem_drop]
    rw [← nat_get (by omega), ← nat_get (by omega)]
    exact hmono _ _ (hinc.le (by omega) (by omega)) (hlt _ (by omega))
  · intro y hy
    obtain ⟨j, hj, rfl⟩ := mem_nat hy
    rw [List.length_drop] at hj
    rw [hdn]
    exact hmono _ _ (hinc.le (by omega) (by omega)) (hlt _ (by omega))
end

/-! ### The kept ones, one by one -/
def cntK (f : Nat → Bool) (L : List Nat) (k : Nat) : Nat := ((L.take k).filter f).length
theorem cntK_miss {f : Nat → Bool} {L : List Nat} {k : Nat} (h : k < L.length) (hf : f (nat L k) = false) : cntK f L (k + 1) = cntK f L k := by
  unfold cntK
  rw [List.take_add_one, List.getElem?_eq_getElem h, List.filter_append]
  rw [nat_get h] at hf
  simp [hf]
theorem cntK_hit {f : Nat → Bool} {L : List Nat} {k : Nat} (h : k < L.length) (hf : f (nat L k) = true) : cntK f L (k + 1) = cntK f L k + 1 := by
  unfold cntK
  rw [List.take_add_one, List.getElem?_eq_getElem h, List.filter_append]
  rw [nat_get h] at hf
  simp [hf]
theorem cntK_end (f : Nat → Bool) (L : List Nat) : cntK f L L.length = (L.filter f).length := by simp [cntK]
theorem cntK_at {f : Nat → Bool} {L : List Nat} {k : Nat} (h : k < L.length) (hf : f (nat L k) = true) : cntK f L k < (L.filter f).length ∧ nat (L.filter f) (cntK f L k) = nat L k := by
  have e : L.filter f = (L.take k).filter f ++ (nat L k :: (L.drop (k + 1)).filter f) := by
    conv => lhs; rw [← List.take_append_drop k L, drop_nat h, List.filter_append, List.filter_cons, if_pos hf]
  constructor
  · rw [e]; simp [cntK]
  · rw [e]
    have := nat_app_ge (L := (L.take k).filter f) (M := nat L k :: (L.drop (k + 1)).filter f) (k := 0)
    exact this

/-- The last cells of a row. -/
def RowHi (w : World) (g : Nat) (e : TypeId) (n c : Nat) (f : Nat → Value) : Prop := ∃ F, w.rowIs g e n F ∧ ∀ i, c ≤ i → i < n → F i = f i
theorem RowHi.step {w : World} {g : Nat} {e : TypeId} {n c : Nat} {f : Nat → Value} (h : RowHi w g e n (c + 1) f) : RowHi (w.setCell ⟨g, c, none⟩ (f c)) g e n c f := by
  obtain ⟨F, hF, hc⟩ := h
  refine ⟨_, hF.set c _, fun i h1 h2 => ?_⟩
  by_cases ei : i = c
  · subst ei; simp
  · simp only [if_neg ei]; exact hc i (by omega) h2
theorem RowHi.cell {w : World} {g : Nat} {e : TypeId} {n c : Nat} {f : Nat → Value} (h : RowHi w g e n c f) {i : Nat} (hi : i < n) : ∃ u, w.cell? ⟨g, i, none⟩ = some u := by
  obtain ⟨F, hF, _⟩ := h
  exact ⟨_, hF.cell hi⟩
theorem RowHi.frozen {w : World} {g : Nat} {e : TypeId} {n c : Nat} {f : Nat → Value} (h : RowHi w g e n c f) (i : Nat) : w.frozen? ⟨g, i, none⟩ = false := by
  obtain ⟨F, hF, _⟩ := h
  exact hF.frozen i
theorem RowHi.all {w : World} {g : Nat} {e : TypeId} {n : Nat} {f : Nat → Value} (h : RowHi w g e n 0 f) : RowN w g e n n f := by
  obtain ⟨F, hF, hc⟩ := h
  exact ⟨F, hF, fun i hi => hc i (by omega) hi⟩
theorem RowHi.of_block {w w' : World} {g : Nat} {e : TypeId} {n c : Nat} {f : Nat → Value} (h : RowHi w g e n c f) (hb : w'.heap[g]? = w.heap[g]?) : RowHi w' g e n c f := by
  obtain ⟨F, hF, hc⟩ := h
  exact ⟨F, hF.of_block hb, hc⟩
theorem RowHi.lt {w : World} {g : Nat} {e : TypeId} {n c : Nat} {f : Nat → Value} (h : RowHi w g e n c f) : g < w.heap.size := by
  obtain ⟨F, hF, _⟩ := h
  exact hF.lt
end Go.Proofs.Qxb6601200a
