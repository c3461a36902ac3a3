import Derived.Test.Qxb6601200aCPlain
namespace Go.Proofs.Qxb6601200a
open Go.RowKit

def nat (L : List Nat) (k : Nat) : Nat := L.getD k 0
theorem nat_get {L : List Nat} {k : Nat} (h : k < L.length) : nat L k = L[k] := by simp [nat, h]
theorem nat_mem {L : List Nat} {k : Nat} (h : k < L.length) : nat L k ∈ L := by rw [nat_get h]; exact List.getElem_mem h
theorem mem_nat {L : List Nat} {x : Nat} (h : x ∈ L) : ∃ k, k < L.length ∧ nat L k = x := by
  obtain ⟨i, hi, e⟩ := List.getElem_of_mem h
  exact ⟨i, hi, by rw [nat_get hi, e]⟩
theorem nat_app_lt {L M : List Nat} {k : Nat} (h : k < L.length) : nat (L ++ M) k = nat L k := by simp [nat, List.getElem?_append_left h]
theorem nat_app_ge {L M : List Nat} {k : Nat} : nat (L ++ M) (L.length + k) = nat M k := by simp [nat, List.getElem?_append_right]
theorem nat_app_last {L : List Nat} {x : Nat} : nat (L ++ [x]) L.length = x := by simp [nat]
theorem nat_take {L : List Nat} {j k : Nat} (h : k < j) : nat (L.take j) k = nat L k := by simp [nat, h]

/-! ### A segment of the positions -/
def seg (L : List Nat) (lo k : Nat) : List Nat := (L.drop lo).take k
theorem seg_zero (L : List Nat) (lo : Nat) : seg L lo 0 = [] := by simp [seg]
theorem seg_len {L : List Nat} {lo k : Nat} (h : lo + k ≤ L.length) : (seg L lo k).length = k := by simp [seg]; omega
theorem seg_snoc {L : List Nat} {lo k : Nat} (h : lo + k < L.length) : seg L lo (k + 1) = seg L lo k ++ [nat L (lo + k)] := by
  have h1 : k < (L.drop lo).length := by simp; omega
  unfold seg
  rw [List.take_add_one, List.getElem?_eq_getElem h1]
  simp [nat, h]
theorem take_seg (L : List Nat) (lo k : Nat) : L.take (lo + k) = L.take lo ++ seg L lo k := by
  unfold seg; rw [List.take_add]
theorem seg_mem {L : List Nat} {lo k x : Nat} (h : x ∈ seg L lo k) : ∃ a, lo ≤ a ∧ a < lo + k ∧ a < L.length ∧ nat L a = x := by
  obtain ⟨j, hj, e⟩ := mem_nat h
  have hj2 : j < k ∧ lo + j < L.length := by
    simp only [seg, List.length_take, List.length_drop] at hj; omega
  refine ⟨lo + j, by omega, by omega, by omega, ?_⟩
  rw [← e]
  simp [seg, nat, hj2.1]
theorem mem_seg {L : List Nat} {lo k a : Nat} (h1 : lo ≤ a) (h2 : a < lo + k) (h3 : a < L.length) : nat L a ∈ seg L lo k := by
  have hl : a - lo < (seg L lo k).length := by simp [seg]; omega
  have : nat (seg L lo k) (a - lo) = nat L a := by
    simp [seg, nat, show a - lo < k by omega, show lo + (a - lo) = a by omega]
  rw [← this]; exact nat_mem hl

/-- Strictly increasing. -/
def Incs (L : List Nat) : Prop := ∀ a b, a < b → b < L.length → nat L a < nat L b
theorem Incs.seg {L : List Nat} (h : Incs L) (lo k : Nat) {a b : Nat} (hab : a < b) (hb : b < (seg L lo k).length) : nat (Qxb6601200a.seg L lo k) a < nat (Qxb6601200a.seg L lo k) b := by
  have hb2 : b < k ∧ lo + b < L.length := by simp only [Qxb6601200a.seg, List.length_take, List.length_drop] at hb; omega
  have e : ∀ c, c < k → nat (Qxb6601200a.seg L lo k) c = nat L (lo + c) := fun c hc => by simp [Qxb6601200a.seg, nat, hc]
  rw [e a (by omega), e b hb2.1]
  exact h _ _ (by omega) hb2.2
theorem Incs.pair {L : List Nat} (h : Incs L) : L.Pairwise (· < ·) := by
  rw [List.pairwise_iff_getElem]
  intro i j hi hj hij
  have := h i j hij hj
  rwa [nat_get hi, nat_get hj] at this
theorem Incs.of_pair {L : List Nat} (h : L.Pairwise (· < ·)) : Incs L := by
  intro a b hab hb
  rw [List.pairwise_iff_getElem] at h
  have := h a b (by omega) hb hab
  rwa [nat_get (by omega), nat_get hb]
theorem Incs.le {L : List Nat} (h : Incs L) {a b : Nat} (hab : a ≤ b) (hb : b < L.length) : nat L a ≤ nat L b := by
  rcases Nat.lt_or_eq_of_le hab with e | e
  · exact Nat.le_of_lt (h a b e hb)
  · subst e; exact Nat.le_refl _
theorem Incs.filter {L : List Nat} (h : Incs L) (f : Nat → Bool) : Incs (L.filter f) := Incs.of_pair (h.pair.filter f)
theorem Incs.inj {L : List Nat} (h : Incs L) {a b : Nat} (ha : a < L.length) (hb : b < L.length) (e : nat L a = nat L b) : a = b := by
  rcases Nat.lt_trichotomy a b with c | c | c
  · have := h a b c hb; omega
  · exact c
  · have := h b a c ha; omega

section
variable (tk : Nat → Int) (ow gr : Nat → Nat) (cu : Nat → Int)

/-! ### Phase 1: which pattern settles a group -/
def cstar (i : Nat) : Bool := tk i == -2 && tk (i + 1) == -1
def whTo (L : List Nat) : Nat → Nat → Option Nat
  | 0, _ => none
  | k + 1, g => match whTo L k g with
    | some q => some q
    | none => if cstar tk (nat L k) = true ∧ gr (ow (nat L k)) = g then some (ow (nat L k)) else none
def sof : Option Nat → Int
  | none => 0
  | some _ => 1
def wof : Option Nat → Int
  | none => 0
  | some q => (q : Int)
variable {tk ow gr cu}
theorem wh_miss {L : List Nat} {k : Nat} (h : cstar tk (nat L k) = false) (g : Nat) : whTo tk ow gr L (k + 1) g = whTo tk ow gr L k g := by
  simp only [whTo]
  cases whTo tk ow gr L k g with
  | some q => rfl
  | none => simp [h]
theorem wh_set {L : List Nat} {k q : Nat} (h : whTo tk ow gr L k (gr (ow (nat L k))) = some q) (g : Nat) : whTo tk ow gr L (k + 1) g = whTo tk ow gr L k g := by
  simp only [whTo]
  cases e : whTo tk ow gr L k g with
  | some q => rfl
  | none =>
    simp only
    rw [if_neg]
    rintro ⟨_, e2⟩
    rw [e2, e] at h; cases h
theorem wh_new {L : List Nat} {k : Nat} (hc : cstar tk (nat L k) = true) (h : whTo tk ow gr L k (gr (ow (nat L k))) = none) (g : Nat) :
    whTo tk ow gr L (k + 1) g = if g = gr (ow (nat L k)) then some (ow (nat L k)) else whTo tk ow gr L k g := by
  simp only [whTo]
  by_cases e : g = gr (ow (nat L k))
  · subst e; simp [h, hc]
  · rw [if_neg e]
    cases whTo tk ow gr L k g with
    | some q => rfl
    | none => simp [Ne.symm e]
theorem wh_some {L : List Nat} {g q : Nat} : ∀ k, whTo tk ow gr L k g = some q → ∃ a, a < k ∧ cstar tk (nat L a) = true ∧ gr (ow (nat L a)) = g ∧ ow (nat L a) = q ∧ ∀ b, b < a → ¬ (cstar tk (nat L b) = true ∧ gr (ow (nat L b)) = g)
  | 0, h => by cases h
  | k + 1, h => by
    simp only [whTo] at h
    cases e : whTo tk ow gr L k g with
    | some q' =>
      rw [e] at h
      simp only [Option.some.injEq] at h
      subst h
      obtain ⟨a, h1, h2⟩ := wh_some k e
      exact ⟨a, by omega, h2⟩
    | none =>
      rw [e] at h
      simp only at h
      split at h
      · rename_i hc
        simp only [Option.some.injEq] at h
        refine ⟨k, by omega, hc.1, hc.2, h, ?_⟩
        intro b hb hcb
        have : ∀ k, whTo tk ow gr L k g = none → ∀ b, b < k → ¬ (cstar tk (nat L b) = true ∧ gr (ow (nat L b)) = g) := by
          intro k
          induction k with
          | zero => intro _ b hb; omega
          | succ k ih =>
            intro h b hb hcb
            simp only [whTo] at h
            cases e : whTo tk ow gr L k g with
            | some q => rw [e] at h; cases h
            | none =>
              rw [e] at h
              simp only at h
              by_cases eb : b = k
              · subst eb; rw [if_pos hcb] at h; cases h
              · exact ih e b (by omega) hcb
        exact this k e b hb hcb
      · cases h
theorem wh_none {L : List Nat} {g : Nat} : ∀ k, whTo tk ow gr L k g = none → ∀ b, b < k → ¬ (cstar tk (nat L b) = true ∧ gr (ow (nat L b)) = g)
  | 0, _, b, hb => by omega
  | k + 1, h, b, hb => by
    intro hcb
    simp only [whTo] at h
    cases e : whTo tk ow gr L k g with
    | some q => rw [e] at h; cases h
    | none =>
      rw [e] at h
      simp only at h
      by_cases eb : b = k
      · subst eb; rw [if_pos hcb] at h; cases h
      · exact wh_none k e b (by omega) hcb

/-! ### Phase 2: what a pattern keeps -/
variable (tk cu) in
def cond (i x : Nat) : Bool := tk i != -2 && (tk i != -5 || decide ((x : Int) ≤ cu i))
variable (tk cu) in
def survIn (S : List Nat) (x : Nat) : Bool := S.all fun y => !decide (x < y) || cond tk cu y x
variable (tk cu) in
def stk (S : List Nat) : List Nat := S.filter (survIn tk cu S)
theorem stk_snoc {S : List Nat} {i : Nat} (h : ∀ x ∈ S, x < i) : stk tk cu (S ++ [i]) = (stk tk cu S).filter (cond tk cu i) ++ [i] := by
  unfold stk
  rw [List.filter_append, List.filter_filter]
  congr 1
  · apply List.filter_congr
    intro x hx
    simp [survIn, h x hx, Bool.and_comm]
  · have : survIn tk cu (S ++ [i]) i = true := by
      simp only [survIn, List.all_eq_true]
      intro y hy
      rcases List.mem_append.1 hy with e | e
      · have := h y e; simp; left; omega
      · simp at e; subst e; simp
    simp [this]
theorem cond_star {l : List Nat} {i : Nat} (h : (tk i == -2) = true) : l.filter (cond tk cu i) = [] := by
  have : (tk i != -2) = false := by simp [bne, h]
  rw [List.filter_eq_nil_iff]
  intro x _; simp [cond, this]
theorem cond_other {l : List Nat} {i : Nat} (h2 : (tk i == -2) = false) (h5 : (tk i == -5) = false) : l.filter (cond tk cu i) = l := by
  have e2 : (tk i != -2) = true := by simp [bne, h2]
  have e5 : (tk i != -5) = true := by simp [bne, h5]
  rw [List.filter_eq_self]
  intro x _; simp [cond, e2, e5]
theorem cond_field {l : List Nat} {i : Nat} (h5 : (tk i == -5) = true) : l.filter (cond tk cu i) = l.filter (fun x : Nat => decide ((x : Int) ≤ cu i)) := by
  have e5 : (tk i != -5) = false := by simp [bne, h5]
  have e : tk i = -5 := beq_iff_eq.1 h5
  have e2 : (tk i != -2) = true := by rw [e]; decide
  apply List.filter_congr
  intro x _; simp [cond, e2, e5]
theorem pop_filter {S : List Nat} (hs : Incs S) {c : Int} {j : Nat} (hj : j ≤ S.length) (h1 : ∀ q, j ≤ q → q < S.length → c < (nat S q : Int)) (h2 : j = 0 ∨ (nat S (j - 1) : Int) ≤ c) :
    S.filter (fun x : Nat => decide ((x : Int) ≤ c)) = S.take j := by
  conv => lhs; rw [← List.take_append_drop j S]
  rw [List.filter_append]
  have e1 : (S.take j).filter (fun x : Nat => decide ((x : Int) ≤ c)) = S.take j := by
    rw [List.filter_eq_self]
    intro x hx
    obtain ⟨a, ha, rfl⟩ := mem_nat hx
    simp only [List.length_take] at ha
    rw [nat_take (by omega)]
    rcases h2 with h2 | h2
    · omega
    · have := hs.le (a := a) (b := j - 1) (by omega) (by omega)
      simp; omega
  have e2 : (S.drop j).filter (fun x : Nat => decide ((x : Int) ≤ c)) = [] := by
    rw [List.filter_eq_nil_iff]
    intro x hx
    obtain ⟨a, ha, rfl⟩ := mem_nat hx
    simp only [List.length_drop] at ha
    have e : nat (S.drop j) a = nat S (j + a) := by simp [nat]
    rw [e]
    have := h1 (j + a) (by omega) (by omega)
    simp; omega
  rw [e1, e2, List.append_nil]
theorem stk_incs {S : List Nat} (h : Incs S) : Incs (stk tk cu S) := h.filter _

/-! ### The whole -/
variable (tk ow cu) in
def survB (L : List Nat) (x : Nat) : Bool := L.all fun y => !(decide (x < y) && ow y == ow x) || cond tk cu y x
def ownWh (o : Option Nat) (p : Nat) : Bool := match o with
  | none => true
  | some q => q == p
variable (tk ow gr cu) in
def keepB (L : List Nat) (x : Nat) : Bool := survB tk ow cu L x && ownWh (whTo tk ow gr L L.length (gr (ow x))) (ow x)
variable (tk ow gr cu) in
def keptTo (L : List Nat) (lo : Nat) : List Nat := (L.take lo).filter (keepB tk ow gr cu L)

theorem survB_seg {L : List Nat} {lo k p : Nat} (h1 : ∀ a, lo ≤ a → a < lo + k → ow (nat L a) = p) (h2 : ∀ a, a < lo ∨ lo + k ≤ a → a < L.length → ow (nat L a) ≠ p) {x : Nat} (hx : x ∈ seg L lo k) :
    survB tk ow cu L x = survIn tk cu (seg L lo k) x := by
  obtain ⟨a, ha1, ha2, ha3, rfl⟩ := seg_mem hx
  have hox := h1 a ha1 ha2
  rw [Bool.eq_iff_iff]
  simp only [survB, survIn, List.all_eq_true]
  constructor
  · intro h y hy
    obtain ⟨b, hb1, hb2, hb3, rfl⟩ := seg_mem hy
    have := h _ (nat_mem hb3)
    rw [h1 b hb1 hb2, hox] at this
    simpa using this
  · intro h y hy
    obtain ⟨b, hb, rfl⟩ := mem_nat hy
    by_cases hin : lo ≤ b ∧ b < lo + k
    · have := h _ (mem_seg hin.1 hin.2 hb)
      rw [h1 b hin.1 hin.2, hox]
      simpa using this
    · have := h2 b (by omega) hb
      have e : (ow (nat L b) == ow (nat L a)) = false := by rw [hox]; simpa using this
      simp [e]
theorem keptTo_seg {L : List Nat} {lo k p : Nat} (h1 : ∀ a, lo ≤ a → a < lo + k → ow (nat L a) = p) (h2 : ∀ a, a < lo ∨ lo + k ≤ a → a < L.length → ow (nat L a) ≠ p) :
    keptTo tk ow gr cu L (lo + k) = keptTo tk ow gr cu L lo ++ (if ownWh (whTo tk ow gr L L.length (gr p)) p = true then stk tk cu (seg L lo k) else []) := by
  unfold keptTo
  rw [take_seg, List.filter_append]
  congr 1
  have e : ∀ x ∈ seg L lo k, keepB tk ow gr cu L x = (survIn tk cu (seg L lo k) x && ownWh (whTo tk ow gr L L.length (gr p)) p) := by
    intro x hx
    unfold keepB
    rw [survB_seg h1 h2 hx]
    obtain ⟨a, ha1, ha2, ha3, rfl⟩ := seg_mem hx
    rw [h1 a ha1 ha2]
  split
  · rename_i hw
    unfold stk
    apply List.filter_congr
    intro x hx
    rw [e x hx, hw, Bool.and_true]
  · rename_i hw
    rw [List.filter_eq_nil_iff]
    intro x hx
    rw [e x hx]
    simp [hw]
end

/-! ### The array of the positions while prune writes it -/
structure Kp (L : List Nat) (m : Nat) (K : List Nat) (hi : Nat) (A : Nat → Nat) : Prop where
  len : K.length ≤ hi
  low : ∀ i, i < K.length → A i = nat K i
  high : ∀ i, hi ≤ i → i < m → A i = nat L i
  all : ∀ i, i < m → ∃ h, i ≤ h ∧ h < m ∧ A i = nat L h
theorem Kp.start (L : List Nat) (m : Nat) : Kp L m [] 0 (nat L) := ⟨by simp, fun i h => by simp at h, fun _ _ _ => rfl, fun i h => ⟨i, Nat.le_refl _, h, rfl⟩⟩
theorem Kp.take {L : List Nat} {m : Nat} {K : List Nat} {hi : Nat} {A : Nat → Nat} (h : Kp L m K hi A) (j : Nat) : Kp L m (K.take j) hi A := by
  have := h.len
  refine ⟨by simp; omega, fun i hi => ?_, h.high, h.all⟩
  simp only [List.length_take] at hi
  rw [nat_take (by omega)]; exact h.low i (by omega)
def upd (A : Nat → Nat) (k v : Nat) (i : Nat) : Nat := if i = k then v else A i
theorem Kp.push {L : List Nat} {m : Nat} {K : List Nat} {hi : Nat} {A : Nat → Nat} (h : Kp L m K hi A) (hh : hi < m) : Kp L m (K ++ [nat L hi]) (hi + 1) (upd A K.length (nat L hi)) := by
  have hl := h.len
  refine ⟨by simp; omega, fun i hi' => ?_, fun i h1 h2 => ?_, fun i h1 => ?_⟩
  · simp only [List.length_append, List.length_cons, List.length_nil] at hi'
    unfold upd
    by_cases e : i = K.length
    · subst e; rw [if_pos rfl, nat_app_last]
    · rw [if_neg e, nat_app_lt (by omega)]; exact h.low i (by omega)
  · unfold upd; rw [if_neg (by omega)]; exact h.high i (by omega) h2
  · unfold upd
    by_cases e : i = K.length
    · rw [if_pos e]; exact ⟨hi, by omega, hh, rfl⟩
    · rw [if_neg e]; exact h.all i h1
end Go.Proofs.Qxb6601200a
