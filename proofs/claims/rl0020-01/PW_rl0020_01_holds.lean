import PyProof.Rows.All
import Wide.All
import OpenK.AllK
import Wide.FinOn
import PyProof.ZipIter
import PyProof.IsiH_set
import KE.BitLaws
import PySem.Challenge.RW_rl0020_01
set_option Elab.async false
set_option maxRecDepth 100000

section
namespace Mine
/-! the plain law: texts as lists of numbers -/
def pal (l : List Nat) : Bool := l == l.reverse
/-- an even mirror, at least two signs -/
def mir (l : List Nat) : Bool := decide (2 ≤ l.length) && (l.length % 2 == 0) && pal l
def sizesDown (n : Nat) : List Nat := (List.range (n - 1)).map fun i => n - i
def mirrors (t : List Nat) : List (List Nat) := ((sizesDown t.length).filter fun k => k % 2 == 0 && pal (t.take k)).map fun k => t.take k
def lastOf (l : List (List Nat)) : List Nat := l.getLastD []
noncomputable def cutF : Nat → List Nat → List (List (List Nat)) × List Nat
  | 0, t => ([], t)
  | n + 1, t => if t = [] then ([], t) else if mirrors t = [] then ([], t) else
      (mirrors t :: (cutF n (t.drop (lastOf (mirrors t)).length)).1, (cutF n (t.drop (lastOf (mirrors t)).length)).2)
noncomputable def cut (t : List Nat) : List (List (List Nat)) × List Nat := cutF (t.length + 1) t
def cutsAt (t : List Nat) (e : Nat) (ends : List Nat) : Bool := ends.any fun k => pal ((t.drop k).take (e - k))
def evens (n : Nat) : List Nat := (List.range (n / 2)).map fun i => 2 * (i + 1)
def laid (t : List Nat) : List Nat := (evens t.length).foldl (fun ends e => if cutsAt t e ends then ends ++ [e] else ends) [0]

theorem pal_iff {l : List Nat} : pal l = true ↔ l = l.reverse := by simp [pal]
theorem mir_iff {l : List Nat} : mir l = true ↔ 2 ≤ l.length ∧ l.length % 2 = 0 ∧ l = l.reverse := by simp [mir, pal, and_assoc]

/-- the least mirror that a text begins with, if any -/
def least (t : List Nat) (p : List Nat) : Prop := p <+: t ∧ mir p = true ∧ ∀ q, q <+: t → mir q = true → p.length ≤ q.length

theorem mem_sizesDown {n k : Nat} : k ∈ sizesDown n ↔ 2 ≤ k ∧ k ≤ n := by
  simp only [sizesDown, List.mem_map, List.mem_range]
  constructor
  · rintro ⟨i, hi, rfl⟩; omega
  · rintro ⟨h1, h2⟩; exact ⟨n - k, by omega, by omega⟩
theorem mem_mirrors {t q : List Nat} : q ∈ mirrors t ↔ q <+: t ∧ mir q = true := by
  simp only [mirrors, List.mem_map, List.mem_filter, mem_sizesDown, Bool.and_eq_true, beq_iff_eq, pal_iff, mir_iff]
  constructor
  · rintro ⟨k, ⟨⟨h1, h2⟩, h3, h4⟩, rfl⟩
    have hl : (t.take k).length = k := by simp; omega
    exact ⟨List.take_prefix _ _, by omega, by omega, h4⟩
  · rintro ⟨h1, h2, h3, h4⟩
    have e := List.prefix_iff_eq_take.mp h1
    exact ⟨q.length, ⟨⟨h2, h1.length_le⟩, h3, by rw [← e]; exact h4⟩, e.symm⟩

theorem sizesDown_sorted (n : Nat) : (sizesDown n).Pairwise (· > ·) := by
  unfold sizesDown
  rw [List.pairwise_map]
  refine List.Pairwise.imp_of_mem ?_ (List.pairwise_lt_range (n := n - 1))
  intro a b ha hb hab
  simp only [List.mem_range] at ha hb
  omega
theorem mirrors_sorted (t : List Nat) : (mirrors t).Pairwise (fun a b => a.length > b.length) := by
  unfold mirrors
  rw [List.pairwise_map]
  refine List.Pairwise.imp_of_mem ?_ ((sizesDown_sorted t.length).filter _)
  intro a b ha hb hab
  have h1 := mem_sizesDown.mp (List.mem_filter.mp ha).1
  have h2 := mem_sizesDown.mp (List.mem_filter.mp hb).1
  simp only [List.length_take]
  omega
theorem lastOf_mem {l : List (List Nat)} (h : l ≠ []) : lastOf l ∈ l := by
  unfold lastOf
  rw [List.getLastD_eq_getLast?, List.getLast?_eq_some_getLast h]
  exact List.getLast_mem h
theorem lastOf_least : ∀ {l : List (List Nat)}, l.Pairwise (fun a b => a.length > b.length) → ∀ q ∈ l, (lastOf l).length ≤ q.length
  | [], _, q, hq => nomatch hq
  | [a], _, q, hq => by simp [lastOf] at hq ⊢; subst hq; exact Nat.le_refl _
  | a :: b :: r, hp, q, hq => by
    have e : lastOf (a :: b :: r) = lastOf (b :: r) := by simp [lastOf]
    rw [e]
    obtain ⟨h1, h2⟩ := List.pairwise_cons.mp hp
    rcases List.mem_cons.mp hq with rfl | hq
    · exact Nat.le_of_lt (h1 _ (lastOf_mem (by simp)))
    · exact lastOf_least h2 q hq
theorem least_of {t : List Nat} (h : mirrors t ≠ []) : least t (lastOf (mirrors t)) := by
  have hm := mem_mirrors.mp (lastOf_mem h)
  exact ⟨hm.1, hm.2, fun q h1 h2 => lastOf_least (mirrors_sorted t) q (mem_mirrors.mpr ⟨h1, h2⟩)⟩
theorem least_unique {t p q : List Nat} (h1 : least t p) (h2 : least t q) : p = q := by
  have hl : p.length = q.length := Nat.le_antisymm (h1.2.2 q h2.1 h2.2.1) (h2.2.2 p h1.1 h1.2.1)
  rw [List.prefix_iff_eq_take.mp h1.1, List.prefix_iff_eq_take.mp h2.1, hl]
theorem mirrors_none {t p : List Nat} (h : least t p) : mirrors t ≠ [] := fun e => by
  have := mem_mirrors.mpr ⟨h.1, h.2.1⟩
  rw [e] at this; cases this
theorem least_last {t p : List Nat} (h : least t p) : lastOf (mirrors t) = p := least_unique (least_of (mirrors_none h)) h

/-- laid out in mirrors -/
inductive Star : List Nat → Prop
  | nil : Star []
  | cons {q r : List Nat} : mir q = true → Star r → Star (q ++ r)

/-- Knuth, Morris and Pratt: the least mirror at a mirror's head: it is the mirror, or the mirror is p z p -/
theorem kmp {p q : List Nat} (hq : mir q = true) (hp : p <+: q) (hm : mir p = true) (hmin : ∀ r, r <+: q → mir r = true → p.length ≤ r.length) :
    q = p ∨ ∃ z, q = p ++ (z ++ p) ∧ (z = [] ∨ mir z = true) := by
  obtain ⟨hq1, hq2, hq3⟩ := mir_iff.mp hq
  obtain ⟨hp1, hp2, hp3⟩ := mir_iff.mp hm
  obtain ⟨y, rfl⟩ := hp
  -- q = p ++ y ; reversed: q = y.reverse ++ p
  have hrev : p ++ y = y.reverse ++ p := by
    conv => lhs; rw [hq3]
    rw [List.reverse_append, ← hp3]
  by_cases hy : y = []
  · left; simp [hy]
  right
  have hyl : 0 < y.length := List.length_pos_iff.mpr hy
  have hlen : (p ++ y).length = p.length + y.length := List.length_append
  by_cases hlt : y.length < p.length
  · exfalso
    -- p = y.reverse ++ o : the overlap
    have h1 : y.reverse <+: p := by
      have a : y.reverse <+: p ++ y := by rw [hrev]; exact List.prefix_append _ _
      have b : p <+: p ++ y := List.prefix_append _ _
      exact List.prefix_of_prefix_length_le a b (by simp; omega)
    obtain ⟨o, ho⟩ := h1
    have hol : o.length + y.length = p.length := by rw [← ho]; simp; omega
    have h2 : o ++ y = p := by
      have : y.reverse ++ (o ++ y) = y.reverse ++ p := by rw [← List.append_assoc, ho, hrev]
      exact List.append_cancel_left this
    have h3 : o.reverse = o := by
      have e : (y.reverse ++ o).reverse = y.reverse ++ o := by rw [ho]; exact hp3.symm
      rw [List.reverse_append, List.reverse_reverse] at e
      have e2 : o.reverse ++ y = o ++ y := by rw [e, ho, h2]
      exact List.append_cancel_right e2
    have hom : mir o = true := mir_iff.mpr ⟨by omega, by omega, h3.symm⟩
    have := hmin o ⟨y ++ y, by rw [← List.append_assoc, h2]⟩ hom
    omega
  · -- p is a suffix of y
    have h1 : p <+: y.reverse := by
      have a : y.reverse <+: p ++ y := by rw [hrev]; exact List.prefix_append _ _
      have b : p <+: p ++ y := List.prefix_append _ _
      exact List.prefix_of_prefix_length_le b a (by simp; omega)
    obtain ⟨z, hz⟩ := h1
    have hy2 : y = z.reverse ++ p := by
      have := congrArg List.reverse hz
      rw [List.reverse_append, List.reverse_reverse] at this
      rw [← this, ← hp3]
    have hzz : z.reverse = z := by
      have e : p ++ (z.reverse ++ p) = p ++ z ++ p := by rw [← hy2, hrev, hz]
      rw [List.append_assoc] at e
      exact List.append_cancel_right (List.append_cancel_left e)
    refine ⟨z, by rw [hy2, hzz], ?_⟩
    by_cases hz0 : z = []
    · exact .inl hz0
    · have hl : y.length = z.length + p.length := by rw [hy2]; simp
      have : 0 < z.length := List.length_pos_iff.mpr hz0
      exact .inr (mir_iff.mpr ⟨by omega, by omega, hzz.symm⟩)

theorem star_append {a b : List Nat} (h1 : Star a) (h2 : Star b) : Star (a ++ b) := by
  induction h1 with
  | nil => exact h2
  | cons hq _ ih => rw [List.append_assoc]; exact .cons hq ih
theorem star_one {q : List Nat} (h : mir q = true) : Star q := by
  have := Star.cons h .nil
  rwa [List.append_nil] at this
/-- the least mirror comes off a star -/
theorem star_tail {p y : List Nat} (h : Star (p ++ y)) (hm : mir p = true) (hmin : ∀ q, q <+: p ++ y → mir q = true → p.length ≤ q.length) : Star y := by
  generalize hx : p ++ y = x at h hmin
  cases h with
  | nil =>
    have h1 := (mir_iff.mp hm).1
    have h2 := congrArg List.length hx
    rw [List.length_append, List.length_nil] at h2; omega
  | @cons q r hq hr =>
    have hle := hmin q (List.prefix_append _ _) hq
    have hpq : p <+: q := List.prefix_of_prefix_length_le ⟨y, hx⟩ (List.prefix_append _ _) hle
    rcases kmp hq hpq hm (fun r' h1 h2 => hmin r' (h1.trans (List.prefix_append _ _)) h2) with rfl | ⟨z, rfl, hz⟩
    · exact List.append_cancel_left hx ▸ hr
    · have e : y = z ++ (p ++ r) := by
        rw [List.append_assoc, List.append_assoc] at hx
        exact List.append_cancel_left hx
      rcases hz with hz | hz
      · rw [e, hz, List.nil_append]; exact .cons hm hr
      · rw [e]; exact .cons hz (.cons hm hr)
theorem star_even {t : List Nat} (h : Star t) : t.length % 2 = 0 := by
  induction h with
  | nil => rfl
  | cons hq _ ih => have := (mir_iff.mp hq).2.1; simp; omega

/-- a prime: a mirror that no shorter mirror begins -/
def prime (p : List Nat) : Prop := mir p = true ∧ ∀ q, q <+: p → mir q = true → p.length ≤ q.length
theorem least_prime {t p : List Nat} (h : least t p) : prime p := ⟨h.2.1, fun q h1 h2 => h.2.2 q (h1.trans h.1) h2⟩
theorem prime_least {p r : List Nat} (h : prime p) : least (p ++ r) p := by
  refine ⟨List.prefix_append _ _, h.1, fun q h1 h2 => ?_⟩
  by_cases hlt : q.length < p.length
  · have : q <+: p := List.prefix_of_prefix_length_le h1 (List.prefix_append _ _) (Nat.le_of_lt hlt)
    exact h.2 q this h2
  · omega

theorem cutF_nil (n : Nat) : cutF n [] = ([], []) := by cases n <;> simp [cutF]
theorem cutF_step {n : Nat} {t p : List Nat} (h : least t p) : cutF (n + 1) t = (mirrors t :: (cutF n (t.drop p.length)).1, (cutF n (t.drop p.length)).2) := by
  have h0 : t ≠ [] := fun e => by
    have a := (mir_iff.mp h.2.1).1; have b := h.1.length_le; rw [e, List.length_nil] at b; omega
  rw [cutF, if_neg h0, if_neg (mirrors_none h), least_last h]
theorem cutF_stop {n : Nat} {t : List Nat} (h : mirrors t = []) : cutF n t = ([], t) := by
  cases n with
  | zero => rfl
  | succ n => rw [cutF]; simp [h]
/-- enough fuel is enough -/
theorem cutF_fuel : ∀ (n m : Nat) (t : List Nat), t.length < n → t.length < m → cutF n t = cutF m t
  | 0, _, _, h, _ => by omega
  | _ + 1, 0, _, _, h => by omega
  | n + 1, m + 1, t, h1, h2 => by
    by_cases hm : mirrors t = []
    · rw [cutF_stop hm, cutF_stop hm]
    · have hl := least_of hm
      have h2' := (mir_iff.mp hl.2.1).1
      have h3' := hl.1.length_le
      rw [cutF_step hl, cutF_step hl, cutF_fuel n m _ (by simp; omega) (by simp; omega)]
theorem cut_nil : cut [] = ([], []) := cutF_nil _
theorem cut_step {t p : List Nat} (h : least t p) : cut t = (mirrors t :: (cut (t.drop p.length)).1, (cut (t.drop p.length)).2) := by
  have a := (mir_iff.mp h.2.1).1
  have b := h.1.length_le
  unfold cut
  rw [cutF_step h, cutF_fuel t.length ((t.drop p.length).length + 1) _ (by simp; omega) (by omega)]
theorem cut_stop {t : List Nat} (h : mirrors t = []) : cut t = ([], t) := cutF_stop h

/-- a product of primes is cut into just these -/
theorem cut_primes : ∀ ps : List (List Nat), (∀ p ∈ ps, prime p) → (cut ps.flatten).1.map lastOf = ps ∧ (cut ps.flatten).2 = []
  | [], _ => by simp [cut_nil]
  | p :: ps, h => by
    have hl := prime_least (r := ps.flatten) (h p List.mem_cons_self)
    rw [List.flatten_cons, cut_step hl, List.drop_left]
    obtain ⟨a, b⟩ := cut_primes ps fun q hq => h q (List.mem_cons_of_mem _ hq)
    exact ⟨by rw [List.map_cons, least_last hl, a], b⟩
/-- what the cuts are: primes; with the rest they make the text -/
theorem cut_spec : ∀ (n : Nat) (t : List Nat), t.length ≤ n → (∀ p ∈ (cut t).1.map lastOf, prime p) ∧ ((cut t).1.map lastOf).flatten ++ (cut t).2 = t
  | 0, t, h => by
    have e : t = [] := List.length_eq_zero_iff.mp (by omega)
    subst e; simp [cut_nil]
  | n + 1, t, h => by
    by_cases hm : mirrors t = []
    · rw [cut_stop hm]; simp
    · have hl := least_of hm
      have h2' := (mir_iff.mp hl.2.1).1
      rw [cut_step hl]
      obtain ⟨a, b⟩ := cut_spec n (t.drop (lastOf (mirrors t)).length) (by simp; omega)
      refine ⟨fun p hp => ?_, ?_⟩
      · rw [List.map_cons] at hp
        rcases List.mem_cons.mp hp with rfl | hp
        · exact least_prime hl
        · exact a p hp
      · rw [List.map_cons, List.flatten_cons, List.append_assoc, b]
        conv => rhs; rw [← List.take_append_drop (lastOf (mirrors t)).length t]
        rw [← List.prefix_iff_eq_take.mp hl.1]
theorem mir_rev {p : List Nat} (h : mir p = true) : p.reverse = p := (mir_iff.mp h).2.2.symm
theorem flatten_rev : ∀ ps : List (List Nat), (∀ p ∈ ps, mir p = true) → ps.flatten.reverse = ps.reverse.flatten
  | [], _ => rfl
  | p :: ps, h => by
    rw [List.flatten_cons, List.reverse_append, flatten_rev ps fun q hq => h q (List.mem_cons_of_mem _ hq), mir_rev (h p List.mem_cons_self), List.reverse_cons, List.flatten_append]
    simp
theorem cut_rev {t : List Nat} (h : (cut t).2 = []) : (cut t.reverse).1.map lastOf = ((cut t).1.map lastOf).reverse ∧ (cut t.reverse).2 = [] := by
  obtain ⟨a, b⟩ := cut_spec t.length t (Nat.le_refl _)
  rw [h, List.append_nil] at b
  have e : t.reverse = ((cut t).1.map lastOf).reverse.flatten := by
    conv => lhs; rw [← b]
    exact flatten_rev _ fun p hp => (a p hp).1
  have := cut_primes ((cut t).1.map lastOf).reverse fun p hp => a p (List.mem_reverse.mp hp)
  rw [← e] at this
  exact this
theorem cut_rev_left {t : List Nat} (h : (cut t).2 ≠ []) : (cut t.reverse).2 ≠ [] := fun e => by
  have := (cut_rev e).2
  rw [List.reverse_reverse] at this
  exact h this

/-! the fronts -/
open Classical in
noncomputable def starB (t : List Nat) : Bool := decide (Star t)
theorem starB_iff {t : List Nat} : starB t = true ↔ Star t := by simp [starB]
theorem starB_nil : starB [] = true := starB_iff.mpr .nil
theorem star_split {t : List Nat} (h : Star t) : t = [] ∨ ∃ k, k < t.length ∧ Star (t.take k) ∧ mir (t.drop k) = true := by
  induction h with
  | nil => exact .inl rfl
  | @cons q r hq hr ih =>
    right
    have hl := (mir_iff.mp hq).1
    rcases ih with rfl | ⟨k, hk, h1, h2⟩
    · exact ⟨0, by simp; omega, by simpa using Star.nil, by simpa using hq⟩
    · refine ⟨q.length + k, by simp; omega, ?_, ?_⟩
      · rw [List.take_append, List.take_of_length_le (by omega), Nat.add_sub_cancel_left]; exact .cons hq h1
      · rw [List.drop_append, List.drop_eq_nil_of_le (by omega), Nat.add_sub_cancel_left]; simpa using h2
theorem laid_spec (t : List Nat) : ∀ n, n ≤ t.length / 2 →
    let L := ((List.range n).map fun i => 2 * (i + 1)).foldl (fun ends e => if cutsAt t e ends then ends ++ [e] else ends) [0]
    ∀ S : Nat → Bool, (∀ e, S e = true ↔ Star (t.take e)) → L = ((List.range (n + 1)).map (2 * ·)).filter S
  | 0, _ => by
    intro L S hS
    have : S 0 = true := (hS 0).mpr (by simpa using Star.nil)
    simp [L, this]
  | n + 1, hn => by
    intro L S hS
    have ih := laid_spec t n (by omega) S hS
    simp only [L]
    rw [List.range_succ, List.map_append, List.foldl_append, ih, List.range_succ (n := n + 1), List.map_append, List.filter_append]
    simp only [List.map_cons, List.map_nil, List.foldl_cons, List.foldl_nil, List.filter_cons, List.filter_nil]
    have key : cutsAt t (2 * (n + 1)) (((List.range (n + 1)).map (2 * ·)).filter S) = S (2 * (n + 1)) := by
      rw [Bool.eq_iff_iff, hS]
      simp only [cutsAt, List.any_eq_true, List.mem_filter, List.mem_map, List.mem_range]
      have hlen : (t.take (2 * (n + 1))).length = 2 * (n + 1) := by simp; omega
      constructor
      · rintro ⟨k, ⟨⟨i, hi, rfl⟩, hs⟩, hp⟩
        have h1 := (hS _).mp hs
        have e : t.take (2 * (n + 1)) = t.take (2 * i) ++ (t.drop (2 * i)).take (2 * (n + 1) - 2 * i) := by
          have e1 : 2 * (n + 1) = 2 * i + (2 * (n + 1) - 2 * i) := by omega
          conv => lhs; rw [e1, List.take_add]
        rw [e]
        refine star_append h1 (star_one (mir_iff.mpr ⟨?_, ?_, pal_iff.mp hp⟩)) <;> simp <;> omega
      · intro h
        rcases star_split h with e | ⟨k, hk, h1, h2⟩
        · rw [e] at hlen; simp at hlen
        · rw [hlen] at hk
          rw [List.take_take, Nat.min_eq_left (by omega)] at h1
          have hev := star_even h1
          rw [List.length_take, Nat.min_eq_left (by omega)] at hev
          refine ⟨k, ⟨⟨k / 2, by omega, by omega⟩, (hS k).mpr h1⟩, ?_⟩
          rw [List.drop_take] at h2
          exact pal_iff.mpr (mir_iff.mp h2).2.2
    rw [key]
    cases S (2 * (n + 1)) <;> simp
theorem laid_eq (t : List Nat) : laid t = ((List.range (t.length / 2 + 1)).map (2 * ·)).filter fun e => starB (t.take e) := by
  unfold laid evens
  exact laid_spec t (t.length / 2) (Nat.le_refl _) (fun e => starB (t.take e)) (fun e => starB_iff)

/-- the fronts behind the least mirror -/
theorem laid_step {t p : List Nat} (h : least t p) : laid t = 0 :: (laid (t.drop p.length)).map (p.length + ·) := by
  obtain ⟨hp1, hp2, hp3⟩ := mir_iff.mp h.2.1
  have hle := h.1.length_le
  rw [laid_eq, laid_eq]
  obtain ⟨j, hj⟩ : ∃ j, p.length = 2 * j := ⟨p.length / 2, by omega⟩
  obtain ⟨y, rfl⟩ := h.1
  rw [List.drop_left]
  have hlen : (p ++ y).length = 2 * j + y.length := by rw [List.length_append, hj]
  have hn : (p ++ y).length / 2 + 1 = j + (y.length / 2 + 1) := by omega
  rw [hn, List.range_add, List.map_append, List.filter_append]
  have first : ((List.range j).map (2 * ·)).filter (fun e => starB ((p ++ y).take e)) = [0] := by
    obtain ⟨i, rfl⟩ : ∃ i, j = i + 1 := ⟨j - 1, by omega⟩
    rw [List.range_succ_eq_map, List.map_cons, List.filter_cons_of_pos (by simpa using starB_nil)]
    congr 1
    rw [List.filter_eq_nil_iff]
    intro e he hs
    simp only [List.mem_map, List.mem_range] at he
    obtain ⟨_, ⟨k, hk, rfl⟩, rfl⟩ := he
    have hs := starB_iff.mp hs
    generalize hx : (p ++ y).take (2 * (k + 1)) = x at hs
    have hxl : x.length = 2 * (k + 1) := by rw [← hx]; simp; omega
    cases hs with
    | nil => simp at hxl
    | @cons q r hq hr =>
      have hqp : q <+: p ++ y := (List.prefix_append q r).trans (by rw [← hx]; exact List.take_prefix _ _)
      have := h.2.2 q hqp hq
      rw [List.length_append] at hxl
      omega
  rw [first, List.singleton_append]
  congr 1
  rw [List.map_map, List.filter_map, List.filter_map, List.map_map]
  have hf : ∀ e, starB ((p ++ y).take (2 * (j + e))) = starB (y.take (2 * e)) := fun e => by
    have e1 : (p ++ y).take (2 * (j + e)) = p ++ y.take (2 * e) := by
      rw [List.take_append, List.take_of_length_le (by omega)]
      congr 2; omega
    rw [e1, Bool.eq_iff_iff, starB_iff, starB_iff]
    constructor
    · intro hs
      exact star_tail hs h.2.1 fun q h1 h2 => h.2.2 q (h1.trans (by
        rw [← e1]; exact List.take_prefix _ _)) h2
    · exact fun hs => .cons h.2.1 hs
  have e2 : List.filter ((fun e => starB (List.take e (p ++ y))) ∘ (fun x => 2 * x) ∘ fun x => j + x) (List.range (y.length / 2 + 1)) =
      List.filter ((fun e => starB (List.take e y)) ∘ fun x => 2 * x) (List.range (y.length / 2 + 1)) := by
    congr 1
    funext e
    exact hf e
  rw [e2]
  apply List.map_congr_left
  intro a _
  simp only [Function.comp]
  omega
theorem laid_stop {t : List Nat} (h : mirrors t = []) : laid t = [0] := by
  rw [laid_eq, List.range_succ_eq_map, List.map_cons, List.filter_cons_of_pos (by simpa using starB_nil)]
  congr 1
  rw [List.filter_eq_nil_iff]
  intro e he hs
  simp only [List.mem_map, List.mem_range] at he
  obtain ⟨_, ⟨k, hk, rfl⟩, rfl⟩ := he
  have hs := starB_iff.mp hs
  generalize hx : t.take (2 * (k + 1)) = x at hs
  have hxl : x.length = 2 * (k + 1) := by rw [← hx]; simp; omega
  cases hs with
  | nil => simp at hxl
  | @cons q r hq hr =>
    have hqp : q <+: t := (List.prefix_append q r).trans (by rw [← hx]; exact List.take_prefix _ _)
    have := mem_mirrors.mpr ⟨hqp, hq⟩
    rw [h] at this; cases this
theorem cuts_laid : ∀ (n : Nat) (t : List Nat), t.length ≤ n → (cut t).1 ++ [[]] = (laid t).map fun e => mirrors (t.drop e)
  | 0, t, h => by
    have e : t = [] := List.length_eq_zero_iff.mp (by omega)
    subst e; rw [cut_nil]; decide
  | n + 1, t, h => by
    by_cases hm : mirrors t = []
    · rw [cut_stop hm, laid_stop hm]; simp [hm]
    · have hl := least_of hm
      have h2' := (mir_iff.mp hl.2.1).1
      rw [cut_step hl, laid_step hl]
      have ih := cuts_laid n (t.drop (lastOf (mirrors t)).length) (by simp; omega)
      rw [List.cons_append, ih, List.map_cons, List.map_map]
      simp only [List.drop_zero, List.cons.injEq, true_and]
      apply List.map_congr_left
      intro a _
      simp only [Function.comp, List.drop_drop]

/-- the whole of what the law asks of a text -/
theorem plain_law (t : List Nat) : (cut t).1 ++ [[]] = (laid t).map (fun e => mirrors (t.drop e)) ∧
    ((cut t).2 ≠ [] → (cut t.reverse).2 ≠ []) ∧
    ((cut t).2 = [] → (cut t.reverse).2 = [] ∧ (cut t.reverse).1.map lastOf = ((cut t).1.map lastOf).reverse) :=
  ⟨cuts_laid _ t (Nat.le_refl _), cut_rev_left, fun h => ⟨(cut_rev h).2, (cut_rev h).1⟩⟩
end Mine

end

section
set_option maxRecDepth 100000
namespace Mine
open PySem PySem.Calls PyProof.Rows
open Sem (wp)

/-! the relativised logic: contexts whose stack holds no code that holds a bytearray -/
def holdsBad (id : String) : Bool := PySem.Builtin.Bytes.decodersThatHold.contains id || ["bytearray.__contains__", "bytearray.__mod__", "bytearray.__rmod__", "_struct.pack_into.held", "bytearray.find.held"].contains id
def okC : Code → Bool
  | .builtin id _ => !holdsBad id
  | _ => true
def okB (l : List (Code × Pos)) : Prop := ∀ x ∈ l, okC x.1 = true
def okG (Γ : Ctx) : Prop := okC Γ.code = true ∧ okB Γ.below

theorem okB_cons {c : Code} {p : Pos} {l : List (Code × Pos)} (h1 : okC c = true) (h2 : okB l) : okB ((c, p) :: l) := fun x hx => by
  rcases List.mem_cons.mp hx with rfl | hx
  · exact h1
  · exact h2 x hx

def wpN {α : Type} (M : Model) (A : Around) (t : Sem α) (Q : α → Shared → Prop) (E : Value → Shared → Prop) (s : Shared) : Prop :=
  ∀ Γ p, Γ.In A → okG Γ → wp M Γ t (fun a _ s' => Q a s') (fun e _ s' => E e s') p s
def codeN (M : Model) (A : Around) (c : Code) (R : Result → Shared → Prop) (s : Shared) : Prop :=
  ∀ Γ p, Γ.code = c → Γ.Below A → okB Γ.below → wpCode M Γ R p s

section
variable {α β : Type} {M : Model} {A : Around} {E : Value → Shared → Prop} {s : Shared}
theorem wpN_of {t : Sem α} {Q : α → Shared → Prop} (h : wpAny M A t Q E s) : wpN M A t Q E s := fun Γ p hΓ _ => h Γ p hΓ
theorem codeN_of {c : Code} {R : Result → Shared → Prop} (h : codeAny M A c R s) : codeN M A c R s := fun Γ p hc hΓ _ => h Γ p hc hΓ
theorem wpN_pure {a : α} {Q : α → Shared → Prop} (h : Q a s) : wpN M A (pure a) Q E s := fun _ _ _ _ => h
theorem wpN_mono {t : Sem α} {Q Q' : α → Shared → Prop} {E' : Value → Shared → Prop} (h : wpN M A t Q E s)
    (hQ : ∀ a s, Q a s → Q' a s) (hE : ∀ e s, E e s → E' e s) : wpN M A t Q' E' s :=
  fun Γ p hΓ hN => Sem.wp_mono M Γ t (fun a _ s => hQ a s) (fun e _ s => hE e s) p s (h Γ p hΓ hN)
theorem wpN_bind {m : Sem α} {f : α → Sem β} {Q : β → Shared → Prop} (h : wpN M A m (fun a s' => wpN M A (f a) Q E s') E s) :
    wpN M A (m >>= f) Q E s := fun Γ p hΓ hN => by
  rw [Sem.wp_bind']
  exact Sem.wp_mono M Γ m (fun a p' s' h' => h' Γ p' hΓ hN) (fun _ _ _ h' => h') p s (h Γ p hΓ hN)
/-- a leaf of the library ahead of the rest -/
theorem wpN_leaf {m : Sem α} {f : α → Sem β} {Q : β → Shared → Prop} (h : wpAny M A m (fun a s' => wpN M A (f a) Q E s') E s) : wpN M A (m >>= f) Q E s := wpN_bind (wpN_of h)
theorem wpN_onRaise {m : Sem α} {k : Value → Sem Unit} {Q : α → Shared → Prop}
    (h : wpN M A m Q (fun e s' => wpN M A (k e) (fun _ s'' => E e s'') E s') s) : wpN M A (m.onRaise k) Q E s := fun Γ p hΓ hN => by
  rw [Sem.wp_onRaise]
  exact Sem.wp_mono M Γ m (fun _ _ _ h' => h') (fun e p' s' h' => h' Γ p' hΓ hN) p s (h Γ p hΓ hN)
theorem wpN_attempt {m : Sem α} {Q : Except Value α → Shared → Prop} (h : wpN M A m (fun a => Q (.ok a)) (fun e => Q (.error e)) s) :
    wpN M A m.attempt Q E s := fun Γ p hΓ hN => by rw [Sem.wp_attempt]; exact h Γ p hΓ hN
theorem wpN_holding {vs : List Value} {m : Sem α} {Q : α → Shared → Prop} (h : wpN M A m Q E s) : wpN M A (holding vs m) Q E s :=
  fun Γ p hΓ hN => by rw [Sem.wp_holding]; exact h Γ p hΓ hN
theorem wpN_keep {vs : List Value} {m : Sem α} {Q : α → Shared → Prop} (h : wpN M A m Q E s) : wpN M A (m.keep vs) Q E s :=
  fun Γ p hΓ hN => by rw [Sem.wp_keep]; exact h Γ p hΓ hN
theorem wpN_standAt {pos : Pos} {Q : Unit → Shared → Prop} (h : Q () s) : wpN M A (standAt pos) Q E s := fun _ _ _ _ => h
theorem wpN_rule {tag : String} {Q : Unit → Shared → Prop} (h : Q () s) : wpN M A (rule tag) Q E s := fun _ _ _ _ => h
theorem wpN_point {Q : Unit → Shared → Prop} (h : Q () s) : wpN M A point Q E s := fun _ _ _ _ => h
theorem wpN_eq {t : Sem α} {a : α} {Q : α → Shared → Prop} (e : t = pure a) (h : Q a s) : wpN M A t Q E s := by rw [e]; exact wpN_pure h
theorem wpN_of_in1 {t : Sem α} {Q : α → Shared → Prop} (h : wpN M A.in1 t Q E s) : wpN M A t Q E s :=
  fun Γ p hΓ hN => h Γ p ⟨hΓ.1, hΓ.2.1, hΓ.2.2.1, hΓ.2.2.2.1, Nat.le_succ_of_le hΓ.2.2.2.2⟩ hN

theorem codeN_mono {c : Code} {R R' : Result → Shared → Prop} (h : codeN M A c R s) (hR : ∀ r s, R r s → R' r s) : codeN M A c R' s :=
  fun Γ p hc hΓ hN => wpCode_mono hR (h Γ p hc hΓ hN)
theorem wpN_run {c : Code} {h : Option Value} {Q : Flow → Shared → Prop}
    (hc : codeN M (A.mark h) c (fun r s' => match r with | .ok f => Q f s' | .error e => E e s') s) (hnb : h ≠ some byPass := by intro x; cases x) :
    wpN M A (run c h) Q E s :=
  fun Γ p hΓ hN => by rw [Sem.wp_run]; exact hc _ p rfl (hΓ.enter c h p hnb) (okB_cons hN.1 hN.2)
theorem wpN_runValue {c : Code} {Q : Value → Shared → Prop}
    (hc : codeN M A c (fun r s' => match r with | .ok (.ret v) => Q v s' | .ok _ => False | .error e => E e s') s) :
    wpN M A (runValue c) Q E s := fun Γ p hΓ hN => by rw [Sem.wp_runValue]; exact hc _ p rfl (hΓ.enter c none p (by intro x; cases x)) (okB_cons hN.1 hN.2)
theorem wpN_call {f : Value} {pos : List Value} {kw : List (Str × Value)} {Q : Value → Shared → Prop}
    (hc : codeN M A (.call f ⟨pos, kw⟩) (fun r s' => match r with | .ok (.ret v) => Q v s' | .ok _ => False | .error e => E e s') s) :
    wpN M A (call f pos kw) Q E s := wpN_runValue hc
theorem codeN_of_tree {c : Code} {R : Result → Shared → Prop} (hok : okC c = true)
    (h : wpN M (A.under c) (M.den c) (fun fin s' => match fin with | .done f => R (.ok f) s' | .again c' => c'.quiet = true ∧ codeN M A c' R s')
      (fun e s' => R (.error e) s') s) : codeN M A c R s := fun Γ p hc hΓ hN => by
  rw [wpCode_iff_wp, hc]
  refine Sem.wp_mono M Γ _ (fun fin p' s' h' => ?_) (fun _ _ _ h' => h') p s (h Γ p (hc ▸ hΓ.in) ⟨by rw [hc]; exact hok, hN⟩)
  cases fin with
  | done f => exact h'
  | again c' => exact ⟨h'.1, h'.2 (Γ.goto c') p' rfl (hΓ.goto c') hN⟩
theorem codeN_loop {c : Code} {R : Result → Shared → Prop} (hok : okC c = true) (hq : c.quiet = true) (I : Nat → Shared → Prop)
    (turn : ∀ n s, I n s → wpN M (A.under c) (M.den c)
      (fun fin s' => match fin with | .done f => R (.ok f) s' | .again c' => c' = c ∧ ∃ m, m < n ∧ I m s') (fun e s' => R (.error e) s') s)
    (n : Nat) (h : I n s) : codeN M A c R s := by
  induction n using Nat.strongRecOn generalizing s with
  | ind n ih =>
    refine codeN_of_tree hok (wpN_mono (turn n s h) (fun fin s' hf => ?_) fun _ _ h' => h')
    cases fin with
    | done f => exact hf
    | again c' => obtain ⟨rfl, m, hm, hI⟩ := hf; exact ⟨hq, ih m hm hI⟩
end
end Mine

end

section
set_option maxRecDepth 100000
namespace Mine
open PySem PySem.W PySem.Spec PySem.Calls PyProof.Rows
open Sem (wp)

/-! the head, for the true context alone -/
abbrev caller0 : PySem.Ctx := ⟨.builtin "claim.caller" {}, none, none, [], none⟩
theorem caller0_ok : okG caller0 := ⟨by decide +kernel, fun _ h => nomatch h⟩

theorem wp_of_wpN_done {M : Model} {A : Around} {Γ : PySem.Ctx} {t : Sem Fin} {R : Result → Shared → Prop} {s : Shared} (hin : Γ.In A) (hok : okG Γ)
    (h : wpN M A t (fun fin s' => ∃ f, fin = .done f ∧ R (.ok f) s') (fun e s' => R (.error e) s') s) (p : Pos) :
    wp M Γ t (Sem.finPost M Γ R) (fun e _ s' => R (.error e) s') p s := by
  refine Sem.wp_mono M Γ t (fun fin p' s' h' => ?_) (fun _ _ _ h' => h') p s (h Γ p hin hok)
  obtain ⟨f, rfl, hf⟩ := h'
  exact hf

theorem thread_endsN {prog : Program} {w : World} {t : Sem Fin} {s : Shared} {R : Result → Shared → Prop} (hreg : s.asleep)
    (h : wpN (model prog w) callerA t (fun fin s' => ∃ f, fin = .done f ∧ (R (.ok f) s' ∧ leftWithCleanup s'.gens = false)) (fun e s' => R (.error e) s' ∧ leftWithCleanup s'.gens = false) s) :
    ∃ n r s' s'', runN (denote table) prog w n s ⟨t, .builtin "claim.caller" {}, default, []⟩ = .halted (outcomeOf r) s' ∧
      schedN (denote table) prog w n (.single s ⟨t, .builtin "claim.caller" {}, default, []⟩) = .halted (outcomeOf r) s' ∧ s'.forget = s''.forget ∧ R r s'' := by
  obtain ⟨n, r, s₁, s₂, hs, hn, hfo, hR⟩ := wp_halts_full (M := model prog w) (R := R) hreg (wp_of_wpN_done (R := fun r s' => R r s' ∧ leftWithCleanup s'.gens = false) caller_in caller0_ok h default)
  exact ⟨n, r, s₂, s₁, hn, hs, hfo, hR⟩

theorem callFromN {c : ClaimW} {tree : List Value → Sem Fin} {w : World} {s : Shared} {free : Addr → Prop} {gens : Prop} {kept : Heap → Prop} (hz : s.asleep) (hgens : s.gens = #[])
    (hspec : ∀ args, c.pre args = true → WData.layableAll args = true →
      ∀ ord : List DictEntry → List DictEntry, (∀ l, (ord l).Perm l) →
      ∃ vs s₁, layAllW c.records (classAt s.heap) w.params ord args s = some (vs, s₁) ∧
        wpN (model c.prog w) callerA (tree vs) (fun fin s' => ∃ f, fin = .done f ∧ (c.Ends s args vs s₁ (.ok f) s' ∧ s'.os = s.os ∧ AllBare s'.gens ∧ kept s'.heap))
          (fun e s' => c.Ends s args vs s₁ (.error e) s' ∧ s'.os = s.os ∧ AllBare s'.gens ∧ kept s'.heap) s₁) :
    c.CallFrom (fun vs => ⟨tree vs, .builtin "claim.caller" {}, default, []⟩) w free gens kept s := by
  intro args hpre hlay ord hord
  obtain ⟨vs, s₁, hlaid, hcode⟩ := hspec args hpre hlay ord hord
  have hal := layAllW_rest _ _ _ hlaid
  obtain ⟨k, r, s', s'', hrun, hsched, hfo, hcase, hos, hkp⟩ := thread_endsN (prog := c.prog) (w := w) (t := tree vs) (s := s₁)
    (R := fun r s' => c.Ends s args vs s₁ r s' ∧ s'.os = s.os ∧ kept s'.heap)
    (Shared.asleep_of_life hal.2.2.2 hz)
    (wpN_mono hcode (fun _ _ ⟨f, e, h1, h2, h3, h4⟩ => ⟨f, e, ⟨h1, h2, h4⟩, leftWithCleanup_false_of_bare h3⟩)
      (fun _ _ ⟨h1, h2, h3, h4⟩ => ⟨⟨h1, h2, h4⟩, leftWithCleanup_false_of_bare h3⟩))
  obtain ⟨eh, _, _, eo, _⟩ := Shared.forget_eq hfo
  have hcase := hcase.congr eh
  have hkp : kept s'.heap := by rw [eh]; exact hkp
  rw [← eo] at hos
  have hlife : s'.heap.life = s.heap.life := (runN_life _ _ _ hrun).trans hal.2.2.2
  refine ⟨vs, s₁, hlaid, k, _, s', hsched, ?_, (fun _ i x hx => by rw [hgens] at hx; simp at hx), hkp, by rw [hlife], Shared.rest_eq hos⟩
  rcases hcase with ⟨v, rfl, d1, d2, d3, d4, d5⟩ | ⟨e, ob, cls, rfl, d1, d2, d3, d4, d5⟩
  · exact .inl ⟨v, rfl, d1, d2, d3, fun b o y _ => d4 b o y, d5⟩
  · exact .inr ⟨e, ob, cls, rfl, d1, d2, d3, d4, fun b o y _ => d5 b o y⟩

abbrev WalkM (q : Program) (loose : List Str) (XP : (Str → Option Value) → Heap → Prop) (YP : World → Heap → Prop) (r : RowW) (d : DefRec) (kwd : List (Str × PySem.Expr)) : Prop :=
  ∀ (w : World) (s₀ s₁ : Shared) (mg mb : Str → Option Value), Ground q loose r.records XP w s₀ mg mb s₁.heap → YP w s₁.heap → ∀ (a : Addr) (o : Obj) (pm cd doc dV kV : Value), s₁.heap.get? a = some o →
    o.data = .func { docDef d.name d.params d.body d.scope pm cd doc with defaults := dV, kwdefaults := kV } → s₁.heap.CodeRec cd d.name → Dflts mg s₁.heap d.params kwd dV kV → mg d.name = some (.ref a) → s₁.gens = #[] →
    ∀ (args : List WData) (vals : List Value) (as : List Addr), r.claim.pre args = true → WData.layableAll args = true → ReadsAllW r.records (classAt s₀.heap) s₁.heap vals args as → WellAll w.params s₁.heap vals args → (∀ a ∈ as, (a == sysModules) = false) →
      wpN (model r.prog w) callerA (call (.ref a) vals) (fun v s' => GoodWG r.claim (classAt s₀.heap) (ExcName.means s₀.heap) args s₁ (.ok (.ret v)) s')
        (fun e s' => GoodWG r.claim (classAt s₀.heap) (ExcName.means s₀.heap) args s₁ (.error e) s') s₁

end Mine
section
open Mine PySem PySem.W PySem.Spec PySem.Calls PyProof.Rows
namespace MineH.PySem.W
/-- the head that open_top takes here: its walk is asked in the true context alone -/
theorem holds_open {r : OpenRow} {q : Program} {loose : List Str} {Xt : Shared → Bool} {XP : (Str → Option Value) → Heap → Prop} {α : Type} {Yf : Shared → α} {Ya : World → α} {YP : World → Heap → Prop} {d : DefRec} {kwd : List (Str × PySem.Expr)} {N : Nat}
    (left : LeftO r.prog q loose Xt Yf Ya N) (hY : ∀ w s, Yf s = Ya w → YP w s.heap) (hYk : ∀ w h h', YP w h → (∀ b o, h.get? b = some o → h'.get? b = some o) → YP w h')
    (hX : ∀ s, Xt s = true → XP (s.heap.nsMap mainGlobals) s.heap) (hXk : ∀ mg h h', XP mg h → (∀ b o, h.get? b = some o → h'.get? b = some o) → XP mg h')
    (hdef : defOf q r.name = some (d, kwd)) (hp : r.prog.theDef r.name = some (d.params, d.body, d.scope)) (hk : kwWritten? d.params.kwonlyargs d.params.kw_defaults = some kwd) (hRf : ∀ s, Xt s = true → RecFacts r.records s.heap) (hwr : (!r.writes || r.records.isEmpty) = true)
    (k1 : r.wellSaid = true) (ok : (chainsOk q && opensWell r.prog && (frees r.toRowW && r.within.isEmpty)) = true) (hb : r.prog.bare) (hw : r.toRowW.promised)
    (call : WalkM q loose XP YP r.toRowW d kwd) : r.Holds := by
  obtain ⟨ok, k5⟩ := Bool.and_eq_true_iff.mp ok
  obtain ⟨hch, o1⟩ := Bool.and_eq_true_iff.mp ok
  obtain ⟨k5, k6⟩ := Bool.and_eq_true_iff.mp k5
  obtain ⟨hsame, hu, ha, hap, hm⟩ := frees_parts k5
  refine ⟨k1, hw, ⟨hb, o1, by show r.makers.map _ = []; rw [hm]; rfl⟩, hw.witness, fun w => ⟨(left.behind hX hch w).1, fun s' hs' => ?_⟩⟩
  obtain ⟨s₀, hf, hg0, s, hT, hz, hgens, hg, G00, y⟩ := (left.behind (XP := fun mg h => XP mg h ∧ RecFacts r.records h) (fun s hs => ⟨hX s hs, hRf s hs⟩) hch w).2 s' hs'
  have G0 : Ground q loose [] XP w s (s.heap.nsMap mainGlobals) (s.heap.nsMap builtinsNs) s.heap := ⟨G00.T, G00.B, G00.D, G00.TE, G00.TD, G00.W, G00.X.1, G00.cls, G00.has, G00.apart, G00.once, G00.K⟩
  have RF := G00.X.2
  have hpin : ∀ n ∈ (if r.pinned then [r.name] else []), isTheDefsW r.prog s.heap n := fun n hn => by
    obtain rfl : n = r.name := by split at hn <;> simp_all
    exact pinned_of_view hg G0 hdef hp hk
  refine ⟨s₀, hf, hg0, s, hT, hpin, RF.1, RF.2.1, ?_⟩
  have hgens : s.gens = #[] := Array.eq_empty_of_size_eq_zero (beq_iff_eq.mp hgens)
  have G : Ground q loose r.records XP w s _ _ s.heap := RF.ground G0
  refine callFromN (c := r.toRowW.claim) hz hgens fun args hpre hlay ord hord => ?_
  obtain ⟨⟨vs, s₁⟩, hlaid⟩ := Option.isSome_iff_exists.mp (layAllW_isSome (P := w.params) (ord := ord) G.has args r.args s (pre_splitW hpre).1)
  have keeps := layAllW_keeps _ _ _ hlaid
  have hal := layAllW_rest _ _ _ hlaid
  obtain ⟨as, hrd, hin, hold⟩ := reads_layAllW hord _ _ _ hlaid hlay s₁.heap (fun _ _ e => e)
  have L : Laid r.records w s s₁ args vs as := ⟨⟨ord, hord, hlaid⟩, hrd, hin, hold, keeps, hal.1.trans hgens, hal.2.2.1⟩
  have G₁ := G.keeps hXk keeps
  have hi := ident_freeW hu ha hap
  have hwi : r.toRowW.claim.within = [] := List.isEmpty_iff.mp k6
  obtain ⟨a, o, pm, cd, doc, dV, kV, h1, h2, h3, h4, h5⟩ := G₁.fn hdef
  have main := call w s s₁ _ _ G₁ (hYk _ _ _ (hY w s y) keeps) a o pm cd doc dV kV h2 h3 h4 h5 (defOf_name hdef ▸ h1) L.gens args vs as hpre hlay L.reads L.well (L.low G.low)
  refine ⟨vs, s₁, hlaid, ?_⟩
  refine wpN_leaf (wpAny_nsGet G₁.T.g ?_)
  rw [h1]
  refine wpN_bind (wpN_mono main (fun v s' g => wpN_pure ⟨_, rfl, ?_⟩) fun e s' g => ?_)
  · have z := g.laid (c := r.toRowW.claim) hsame hwi hi L
    exact ⟨z.1, z.2.1, z.2.2, fun q => ⟨namesKept_of hT hg _ keeps g.2.1.old, noTable hwr q⟩⟩
  · have z := g.laid (c := r.toRowW.claim) hsame hwi hi L
    exact ⟨z.1, z.2.1, z.2.2, fun q => ⟨namesKept_of hT hg _ keeps g.2.1.old, noTable hwr q⟩⟩
end MineH.PySem.W
end

end

section
set_option Elab.async false
open PySem PySem.W PyProof.Rows
namespace MineH
set_option maxRecDepth 100000 in
set_option maxHeartbeats 8000000 in
open_top hd for PySem.Challenge.rw_rl0020_01
end MineH

end

section
set_option maxRecDepth 100000
namespace Mine
open PySem PySem.W PySem.Calls PyProof.Rows
open Sem (wp)

abbrev Hk (h h' : Heap) : Prop := ∀ b o, h.get? b = some o → h'.get? b = some o
noncomputable abbrev KF (w : World) : Frag := MineH.hd.heap_39 w.params
/-- what the heap holds of the text and of the machine -/
structure Bs (w : World) (h : Heap) : Prop where
  X : (KF w).In h
  g : ∃ mg, h.Ns mainGlobals mg
  b : ∃ mb, h.Ns builtinsNs mb ∧ ∀ x : Str, x ≠ "__name__" → mb x = bootBuiltins x
  lim : h.NoLimit
theorem Bs.keeps {w : World} {h h' : Heap} (B : Bs w h) (k : Hk h h') : Bs w h' :=
  ⟨B.X.keeps k, let ⟨m, x⟩ := B.g; ⟨m, x.keeps k⟩, let ⟨m, x, y⟩ := B.b; ⟨m, x.keeps k, y⟩, B.lim.keeps k⟩

structure OkA (n : Nat) (A : Around) : Prop where
  hh : A.handled = none
  depth : A.depth + n ≤ 500
  units : A.units + 10 * n ≤ 5000
theorem OkA.deeper {n : Nat} {A : Around} (x : OkA (n + 1) A) (env : Env) : OkA n (A.deeper env) :=
  ⟨x.hh, by have := x.depth; show A.depth + 1 + n ≤ 500; omega, by have := x.units; show A.units + 3 + 10 * n ≤ 5000; omega⟩
theorem OkA.in1 {n : Nat} {A : Around} (x : OkA (n + 1) A) : OkA n A.in1 :=
  ⟨x.hh, by have := x.depth; show A.depth + n ≤ 500; omega, by have := x.units; show A.units + 1 + 10 * n ≤ 5000; omega⟩
theorem OkA.le {n m : Nat} {A : Around} (x : OkA n A) (h : m ≤ n) : OkA m A := ⟨x.hh, by have := x.depth; omega, by have := x.units; omega⟩
theorem OkA.room {n : Nat} {A : Around} (x : OkA n A) : A.depth < recursionLimit := by have := x.depth; show A.depth < 1000; omega
theorem OkA.line {n : Nat} {A : Around} (x : OkA n A) : A.units + 64 < cLine := by have := x.units; show A.units + 64 < 9900; omega

section
variable {M : Model} {w : World} {A : Around} {E : Value → Shared → Prop} {s : Shared} {env : Env} {x : Str} {pos : Pos} {v : Value} {Q : Value → Shared → Prop}
/-- a global of the text -/
theorem nmG (B : Bs w s.heap) (e : nsIn (KF w) mainGlobals x = some (some v)) (hg : env.globals = mainGlobals) (hk : env.scope.kind = .function) (hx : env.kindOf x = some .globalImplicit) (hd : (x == ("__debug__" : Str)) = false) (h : Q v s) :
    wpAny M A (eval (.Name x pos) env) Q E s := by
  obtain ⟨mg, G⟩ := B.g
  exact Name_function_global hk hx (loadGlobal_global (env := env) (by rw [hg]; exact G) (mg_of B.X G e) h) hd
/-- a built-in name -/
theorem nmB (B : Bs w s.heap) (e : nsIn (KF w) mainGlobals x = some none) (hv : bootBuiltins x = some v) (hn : x ≠ "__name__") (hg : env.globals = mainGlobals) (hb : env.builtins = builtinsNs) (hk : env.scope.kind = .function) (hx : env.kindOf x = some .globalImplicit)
    (hd : (x == ("__debug__" : Str)) = false) (h : Q v s) : wpAny M A (eval (.Name x pos) env) Q E s := by
  obtain ⟨mg, G⟩ := B.g
  obtain ⟨mb, Bn, hmb⟩ := B.b
  exact Name_function_global hk hx (loadGlobal_builtin (env := env) (by rw [hg]; exact G) (mg_none_of B.X G e) (by rw [hb]; exact Bn) ((hmb x hn).trans hv) h) hd
end

section
variable {prog : Program} {w : World} {A : Around} {s : Shared}
theorem codeN_func {R : Result → Shared → Prop} {body : List Stmt} {env : Env}
    (h : wpN (model prog w) (A.deeper env) (execs body env) (fun f s' => R (.ok (.ret (match f with | .ret v => v | _ => .none))) s') (fun _ _ => False) s) :
    codeN (model prog w) A (.func body env) R s := by
  refine codeN_of_tree rfl ?_
  show wpN _ (A.deeper env) (do point; match ← (execs body env).onRaise (leaving env) with | .ret v => ret v | _ => ret .none) _ _ s
  refine wpN_bind (wpN_point (wpN_bind (wpN_onRaise (wpN_mono h (fun f s' h' => ?_) fun _ _ h' => h'.elim))))
  cases f <;> exact wpN_pure h'

theorem codeN_call_function {R : Result → Shared → Prop} {a : Addr} {args : Args} {o : Obj} {fd : FuncData} {body : List Stmt} (hroom : A.depth < recursionLimit)
    (ho : s.heap.get? a = some o)
    (hd' : o.data = .func fd) (hco : fd.scope.isCoroutine = false) (hgen : fd.scope.isGenerator = false) (hbody : fd.body = .stmts body) (hcd : s.heap.CodeRec fd.code fd.qualname)
    (h : wpAny (model prog w) A.in1 (bindArgs fd args) (fun binds s₁ =>
      wpAny (model prog w) A.in1 (newFunctionEnv fd.scope fd.globals fd.closure binds (fd.qualname ++ ".<locals>.") (some a) fd.code none fd.builtins)
        (fun env s₂ => s₂.heap.NoLimit ∧ codeN (model prog w) A (.func body env) R s₂) (fun e s' => R (.error e) s') s₁) (fun e s' => R (.error e) s') s) :
    codeN (model prog w) A (.call (.ref a) args) R s := by
  refine codeN_of_tree rfl (wpN_of ?_)
  show wpAny _ A.in1 (callAny (.ref a) args) _ _ s
  simp only [callAny]
  refine wpAny_bind (wpAny_load ho ?_)
  obtain ⟨c, oc, vs, tq, hc, hoc, hdc, hq⟩ := hcd
  simp only [hd', callFunction, hco, hgen, hbody, hc]
  rw [hc] at h
  refine wpAny_bind (m := field (.ref c) 1) (wpAny_field hoc hdc hq (wpAny_bind (wpAny_pure ?_)))
  exact wpAny_bind (wpAny_mono h (fun binds s₁ h₁ => wpAny_bind (wpAny_mono h₁ (fun env s₂ h₂ => wpAny_bind (wpAny_enterFrame h₂.1 hroom
    (wpAny_pure (And.intro rfl h₂.2)))) fun _ _ h' => h')) fun _ _ h' => h')

def kindsOk (scope : Scope) (binds : List (Str × Value)) : Bool := binds.all fun y => scope.names.lookup y.1 == some .local || scope.names.lookup y.1 == some .cell

abbrev Enter (prog : Program) (w : World) (A : Around) (wpX : (M : Model) → (A : Around) → (t : Sem Flow) → (Flow → Shared → Prop) → (Value → Shared → Prop) → Shared → Prop) (fd : FuncData) (f : Addr) (body : List Stmt) (binds : List (Str × Value)) (Q : Value → Shared → Prop) (s : Shared) : Prop :=
  ∀ env s₁, env = callEnvC fd s.heap.objs.size f → InCallC s env.locals (bindL env.kindOf binds fun _ => none) env.cells (bindC env.kindOf binds fun _ => none) s₁ →
      wpX (model prog w) (A.deeper env) (execs body env) (fun f s' => Q (match f with | .ret v => v | _ => .none) s') (fun _ _ => False) s₁

/-- a call of a def of the text, on the path -/
theorem enterN {f : Addr} {vals : List Value} {binds : List (Str × Value)} {fd : FuncData} {body : List Stmt} {oc : Value} {od : Option Addr} {osl : Array (Option Value)} {Q : Value → Shared → Prop} {E : Value → Shared → Prop}
    (B : Bs w s.heap) (hroom : A.depth < recursionLimit) (hl : (KF w).lookup f = some ⟨oc, od, .func fd, osl⟩) (hcd : codeIn (KF w) fd.code fd.qualname = true)
    (hbody : fd.body = .stmts body) (hbind : bindArgs fd ⟨vals, []⟩ = pure binds) (hclo : fd.closure = []) (hkind : kindsOk fd.scope binds = true)
    (hco : fd.scope.isCoroutine = false) (hgen : fd.scope.isGenerator = false) (hk : fd.scope.kind = .function)
    (h : Enter prog w A wpN fd f body binds Q s) : wpN (model prog w) A (call (.ref f) vals) Q E s := by
  refine wpN_call (codeN_call_function hroom (B.X _ _ hl) rfl hco hgen hbody (codeRec_of B.X hcd) ?_)
  rw [hbind, hclo]
  refine wpAny_pure (wpAny_newFunctionEnv_cells hk (kindsX hkind _) fun env he s' x => ⟨B.lim.keeps x.toInCall.keep, codeN_func ?_⟩)
  exact h env s' he x

theorem enterA {f : Addr} {vals : List Value} {binds : List (Str × Value)} {fd : FuncData} {body : List Stmt} {oc : Value} {od : Option Addr} {osl : Array (Option Value)} {Q : Value → Shared → Prop} {E : Value → Shared → Prop}
    (B : Bs w s.heap) (hroom : A.depth < recursionLimit) (hl : (KF w).lookup f = some ⟨oc, od, .func fd, osl⟩) (hcd : codeIn (KF w) fd.code fd.qualname = true)
    (hbody : fd.body = .stmts body) (hbind : bindArgs fd ⟨vals, []⟩ = pure binds) (hclo : fd.closure = []) (hkind : kindsOk fd.scope binds = true)
    (hco : fd.scope.isCoroutine = false) (hgen : fd.scope.isGenerator = false) (hk : fd.scope.kind = .function)
    (h : Enter prog w A wpAny fd f body binds Q s) : wpAny (model prog w) A (call (.ref f) vals) Q E s := by
  refine wpAny_call (codeAny_call_function hroom (B.X _ _ hl) rfl hco hgen hbody (codeRec_of B.X hcd) ?_)
  rw [hbind, hclo]
  refine wpAny_pure (wpAny_newFunctionEnv_cells hk (kindsX hkind _) fun env he s' x => ⟨B.lim.keeps x.toInCall.keep, codeAny_func ?_⟩)
  exact wpAny_mono (h env s' he x) (fun _ _ q => q) fun _ _ q => q.elim
end

end Mine

end

section
set_option maxRecDepth 100000
namespace Mine
open PySem PySem.W PySem.Calls PyProof.Rows
open Sem (wp)

theorem ba_mro : mroOf (.type "bytearray") = pure [.type "bytearray", .type "object"] := by rw [mroOf_type]; kernel_rfl
theorem ba_lookup_new : typeLookup (.type "bytearray") "__new__" = pure (some (.builtin "bytearray.__new__")) := by rw [typeLookup_type, builtinLookup_eq_fast]; kernel_rfl
theorem ba_slot_init : Slot "bytearray" "__init__" "bytearray.__init__" :=
  .of (owner := "bytearray") (n := "__init__") (by rw [typeLookup_type, builtinLookup_eq_fast]; kernel_rfl) (by decide +kernel) (by decide +kernel) (by decide +kernel)
    (by first | exact .inl (by decide +kernel) | exact .inr (by decide +kernel)) (by rw [isSubtype_type]; kernel_rfl)
theorem ba_slot_set : Slot "bytearray" "__setitem__" "bytearray.__setitem__" :=
  .of (owner := "bytearray") (n := "__setitem__") (by rw [typeLookup_type, builtinLookup_eq_fast]; kernel_rfl) (by decide +kernel) (by decide +kernel) (by decide +kernel)
    (by first | exact .inl (by decide +kernel) | exact .inr (by decide +kernel)) (by rw [isSubtype_type]; kernel_rfl)
theorem ba_sub : isSubtype (.type "bytearray") (.type "bytearray") = pure true := by rw [isSubtype_type]; kernel_rfl
theorem ba_called : TypeCalled "bytearray" "bytearray.__new__" "bytearray.__init__" :=
  ⟨by decide +kernel, by decide +kernel, ⟨_, _, ba_mro⟩, madeBy_type ba_mro ba_lookup_new (by decide +kernel), by decide +kernel, ba_sub, ba_slot_init⟩
theorem ba_typeCall (a : Value) : checkTypeCall "bytearray" ⟨[a], []⟩ = pure () := by kernel_rfl
theorem ba_newCall (a : Value) : checkBuiltinCall "bytearray.__new__" ⟨[.type "bytearray", a], []⟩ = pure () := by kernel_rfl
theorem ba_entry_new : entryFor table "bytearray.__new__" = some Builtin.«list.__new__» := entryFor_alias (id' := "list.__new__") (by rw [fastTable_eq_tree]; kernel_rfl) (by decide +kernel) (by decide +kernel) (by rw [fastTable_eq_tree]; kernel_rfl)
theorem ba_entry_init : entryFor table "bytearray.__init__" = some Builtin.«bytearray.__init__» := entryFor_of_tree (by kernel_rfl)
theorem ba_entry_set : entryFor table "bytearray.__setitem__" = some Builtin.«bytearray.__setitem__» := entryFor_of_tree (by kernel_rfl)
theorem ba_plain_new : plainId "bytearray.__new__" = true := by decide +kernel
theorem ba_plain_init : plainId "bytearray.__init__" = true := by decide +kernel
theorem ba_args_init (a b : Value) : argsOk "bytearray.__init__" ⟨[a, b], []⟩ := by unfold argsOk; kernel_rfl
theorem ba_args_set (a b c : Value) : argsOk "bytearray.__setitem__" ⟨[a, b, c], []⟩ := by unfold argsOk; kernel_rfl
theorem ba_no_release : typeLookup (.type "bytearray") "__release_buffer__" = pure (some (.builtin "bytearray.__release_buffer__")) := by rw [typeLookup_type, builtinLookup_eq_fast]; kernel_rfl
theorem ba_buffer : typeLookup (.type "bytearray") "__buffer__" = pure (some (.builtin "bytearray.__buffer__")) := by rw [typeLookup_type, builtinLookup_eq_fast]; kernel_rfl
theorem ba_no_bytes : typeLookup (.type "bytearray") "__bytes__" = pure none := by rw [typeLookup_type, builtinLookup_eq_fast]; kernel_rfl
theorem ba_no_index : typeLookup (.type "bytearray") "__index__" = pure none := by rw [typeLookup_type, builtinLookup_eq_fast]; kernel_rfl
theorem ba_bind (v : Value) : Builtin.Bytes.bindOptional "bytearray.__init__" "bytearray" ["source", "encoding", "errors"] [v] [] = pure [some v, none, none] := by kernel_rfl
set_option maxRecDepth 1000000 in
set_option maxHeartbeats 4000000 in
theorem ba_owner : ("bytearray.__new__".splitOn ".__new__").headD "" = "bytearray" := by simp +decide [String.splitOn, String.splitOnAux]

def baObj (b : Array UInt8) : Obj := { cls := .type "bytearray", data := .bytearray b }
section
variable {prog : Program} {w : World} {A : Around} {E : Value → Shared → Prop} {s : Shared}
theorem ba_new (a : Value) {Q₁ : Value → Shared → Prop}
    (h : Q₁ (.ref s.heap.objs.size) { s with heap := s.heap.push (baObj #[]) }) :
    codeAny (model prog w) A (.call (.builtin "bytearray.__new__") ⟨[.type "bytearray", a], []⟩) (wants Q₁ E) s := by
  refine codeAny_of_tree ?_
  show wpAny _ A.in1 (do checkBuiltinCall "bytearray.__new__" ⟨[.type "bytearray", a], []⟩; again (.builtin "bytearray.__new__" ⟨[.type "bytearray", a], []⟩)) _ _ s
  refine wpAny_bind (wpAny_of_eq (ba_newCall a) (wpAny_pure ⟨plainId_quiet ba_plain_new _, codeAny_builtin_stack ba_entry_new rfl fun p st => ?_⟩))
  rw [Around.under_plainId ba_plain_new _]
  have hsub := ba_sub
  have hown := ba_owner
  obtain ⟨hp, g, d, tk, os⟩ := s
  simp only [hown]
  wp_walk
  exact h
theorem wpN_stack {Q : List (Code × Pos) → Shared → Prop} {M : Model} (h : ∀ st : List (Code × Pos), okB st → Q st s) : wpN M A stack Q E s := fun Γ p _ hN => by
  show Q ((Γ.code, p) :: Γ.below) s
  exact h _ (okB_cons hN.1 hN.2)
theorem exportedN {a : Addr} {Q : Bool → Shared → Prop} {M : Model} (h : Q false s) : wpN M A (Builtin.Bytes.exported (.ref a)) Q E s := by
  unfold Builtin.Bytes.exported
  refine wpN_bind (wpN_stack fun st hst => wpN_pure ?_)
  generalize hb : st.any _ = b
  cases b with
  | false => exact h
  | true =>
    exfalso
    obtain ⟨x, hx, hv⟩ := List.any_eq_true.mp hb
    have hk := hst x hx
    split at hv
    · exact absurd hk (by simp only [okC]; decide +kernel)
    · exact absurd hk (by simp only [okC]; decide +kernel)
    · exact absurd hk (by simp only [okC]; decide +kernel)
    · exact absurd hk (by simp only [okC]; decide +kernel)
    · exact absurd hk (by simp only [okC]; decide +kernel)
    · simp only [okC, holdsBad, Bool.not_eq_true', Bool.or_eq_false_iff] at hk
      rw [hk.1, Bool.and_false] at hv
      cases hv
    · cases hv
theorem ba_slot_own {a : Addr} {name : String} {id : String} {Q : Bool → Shared → Prop} {M : Model} (hT : s.TypeIs (.ref a) "bytearray") (hl : typeLookup (.type "bytearray") (name : Str) = pure (some (.builtin id)))
    (he : id.endsWith ("." ++ name) = true) (hd : id.dropRight (name.length + 1) = "bytearray") (h : Q true s) : wpAny M A (Builtin.Bytes.slotIsOwn (.ref a) name) Q E s := by
  unfold Builtin.Bytes.slotIsOwn
  refine wpAny_bind (wpAny_specialOf hT hl ?_)
  dsimp only
  rw [he]
  simp only [Bool.not_true, Bool.false_eq_true, if_false]
  rw [hd]
  exact wpAny_isInstance hT ba_sub h
theorem ba_init {a : Addr} {n : Nat} {u : Tok} {Q : Fin → Shared → Prop} (ho : s.heap.get? a = some (baObj #[])) (hn : n ≤ 1000) (hp : 0 < n)
    (h : ∀ h', h'.get? a = some (baObj (Array.replicate n 0)) → Heap.SameBut a s.heap h' → Q (.done (.ret .none)) { s with heap := h' }) :
    wpN (model prog w) A (Builtin.«bytearray.__init__» ⟨[.ref a, .int n u], []⟩) Q E s := by
  have hT : s.TypeIs (.ref a) "bytearray" := ⟨_, ho, rfl⟩
  unfold Builtin.«bytearray.__init__»
  dsimp only
  unfold Builtin.Bytes.ownRelease
  refine wpN_leaf (wpAny_bind (ba_slot_own hT ba_no_release (by decide +kernel) (by decide +kernel) (wpAny_pure ?_)))
  simp only [Bool.not_true, Bool.false_eq_true, if_false]
  refine wpN_leaf (wpAny_of_eq (ba_bind _) ?_)
  refine wpN_leaf (wpAny_of_eq (a := ()) rfl ?_)
  refine wpN_leaf (wpAny_of_eq (a := ()) rfl ?_)
  refine wpN_bind ?_
  show wpN _ _ (Builtin.Bytes.exported (.ref a) >>= _) _ _ _
  refine wpN_bind (exportedN ?_)
  refine wpN_of ?_
  show wpAny _ _ ((Builtin.Bytes.exportsOf (.ref a)) >>= _) _ _ _
  refine wpAny_bind ?_
  unfold Builtin.Bytes.exportsOf
  refine wpAny_bind (wpAny_load ho (wpAny_pure (wpAny_pure ?_)))
  refine wpN_of ?_
  refine bm_if_false rfl ?_
  refine wpAny_bind ?_
  show wpAny _ _ (updateBytearray a (fun _ => #[])) _ _ _
  unfold updateBytearray
  refine wpAny_bind (wpAny_load ho ?_)
  show wpAny _ _ (update a (Obj.mapBytearray fun _ => #[]) >>= fun _ => lookBehind a) _ _ _
  refine wpAny_bind (wpAny_update ho ?_)
  have h1 : (s.heap.update a (Obj.mapBytearray fun _ => #[])).get? a = some (baObj #[]) := Heap.get?_update_self (Obj.mapBytearray fun _ => #[]) ho rfl
  refine wpAny_lookBehind h1 rfl ?_
  have e0 : asStr? (.int n u) = pure none := rfl
  simp only [e0, pure_bind, Option.isSome_none, Bool.false_eq_true, if_false]
  have e7 : specialOf (.int n u) (Str.ofString "__index__") = pure (some (.builtin "int.__index__")) := F.slot_int_index.lookup
  simp only [e7, pure_bind, Option.isSome_some, if_true]
  have e6 : asIndex (.int n u) = pure (n : Int) := rfl
  have e8 : (asIndex (.int n u)).attempt = pure (.ok (n : Int)) := by rw [e6]; rfl
  simp only [e8, pure_bind]
  have e1 : Builtin.Bytes.fitsIndex (n : Int) = true := by simp only [Builtin.Bytes.fitsIndex]; simp; omega
  have e2 : ¬ ((n : Int) < 0) := by omega
  have e3 : ((n : Int) == 2 ^ 63 - 1) = false := by rw [beq_eq_false_iff_ne]; omega
  have e4 : Builtin.Bytes.tooLong n = false := KBy.tooLong_not (by omega)
  have e5 : (n : Int) > 0 := by omega
  simp only [e1, e2, e3, Int.toNat_natCast, e4, e5, Bool.not_true, Bool.false_eq_true, if_false, if_true]
  refine wpAny_bind (wpAny_rule (wpAny_bind ?_))
  show wpAny _ _ (updateBytearray a (fun _ => Array.replicate n 0)) _ _ _
  unfold updateBytearray
  refine wpAny_bind (wpAny_load h1 ?_)
  show wpAny _ _ (update a (Obj.mapBytearray fun _ => Array.replicate n 0) >>= fun _ => lookBehind a) _ _ _
  refine wpAny_bind (wpAny_update h1 ?_)
  have h2 : ((s.heap.update a (Obj.mapBytearray fun _ => #[])).update a (Obj.mapBytearray fun _ => Array.replicate n 0)).get? a = some (baObj (Array.replicate n 0)) := Heap.get?_update_self (Obj.mapBytearray fun _ => Array.replicate n 0) h1 rfl
  refine wpAny_lookBehind h2 ?_ ?_
  · show (if (Array.replicate n (0 : UInt8)).size > sizeLine then some "bytearray:memory" else none) = none
    rw [if_neg]
    rw [Array.size_replicate, sizeLine_eq]; omega
  · exact wpAny_pure (h _ h2 ((Heap.SameBut.update ..).trans (Heap.SameBut.update ..)))
theorem den_builtin {id : String} {args : Args} {b : Builtin} (hb : entryFor table id = some b) : (model prog w).den (.builtin id args) = b args := by
  show (match entryFor table id with | some b => b args | none => unsupported ((withoutEnding? id "#data").getD id)) = _
  rw [hb]
theorem ba_typecall (v : Value) {Q : Fin → Shared → Prop}
    (h : wpN (model prog w) A (call (.builtin "bytearray.__new__") [.type "bytearray", v]) (fun obj s' => s'.TypeIs obj "bytearray" ∧ wpN (model prog w) A (call (.builtin "bytearray.__init__") [obj, v]) (fun r s'' => r = .none ∧ Q (.done (.ret obj)) s'') E s') E s) :
    wpN (model prog w) A (Builtin.«type.__call__» ⟨[.type "bytearray", v], []⟩) Q E s := by
  have ft := ba_called
  obtain ⟨c, tl, hmro⟩ := ft.mro
  have hmade := ft.made
  have h1 := ft.notType
  have h2 := ft.canCreate
  unfold Builtin.«type.__call__»
  dsimp only
  simp only [h1, h2, hmro, hmade, ba_typeCall, pure_bind, Bool.false_eq_true, if_false, List.isEmpty_cons]
  refine wpN_bind (wpN_holding (wpN_mono h (fun obj s' h' => ?_) fun _ _ x => x))
  refine wpN_leaf (wpAny_isInstance h'.1 ba_sub ?_)
  simp only [Bool.not_true, Bool.false_eq_true, if_false]
  refine wpN_bind (wpN_holding ?_)
  simp only [callSpecial?]
  refine wpN_leaf (wpAny_specialOf h'.1 ba_slot_init.lookup ?_)
  simp only [ba_slot_init.bind]
  refine wpN_holding (wpN_bind (wpN_pure (wpN_bind (wpN_mono h'.2 (fun r s'' h'' => wpN_pure ?_) fun _ _ x => x))))
  obtain ⟨rfl, hq⟩ := h''
  exact wpN_pure hq
theorem ba_make {n : Nat} {u : Tok} {Q : Value → Shared → Prop} (hn : n ≤ 1000) (hp : 0 < n)
    (h : ∀ h', h'.get? s.heap.objs.size = some (baObj (Array.replicate n 0)) → (∀ b o, s.heap.get? b = some o → h'.get? b = some o) → Q (.ref s.heap.objs.size) { s with heap := h' }) :
    wpN (model prog w) A (call (.type "bytearray") [.int n u]) Q E s := by
  have hok1 : okC (.builtin "type.__call__" ⟨[.type "bytearray", .int n u], []⟩) = true := by simp only [okC]; decide +kernel
  have hok2 : ∀ l, okC (.builtin "bytearray.__init__" l) = true := fun l => by simp only [okC]; decide +kernel
  refine wpN_call (codeN_of_tree rfl ?_)
  show wpN _ _ (again (.builtin "type.__call__" ⟨[.type "bytearray", .int n u], []⟩)) _ _ _
  refine wpN_pure ⟨Code.quiet_builtin _ (by decide +kernel), codeN_of_tree hok1 ?_⟩
  rw [den_builtin F.entry_type_call]
  have ho : (s.heap.push (baObj #[])).get? s.heap.objs.size = some (baObj #[]) := Heap.get?_push_size _ rfl
  have hT : ({ s with heap := s.heap.push (baObj #[]) } : Shared).TypeIs (.ref s.heap.objs.size) "bytearray" := ⟨_, ho, rfl⟩
  refine ba_typecall _ (wpN_of (wpAny_call (codeAny_mono (ba_new (E := fun _ _ => False) (Q₁ := fun v s' => v = .ref s.heap.objs.size ∧ s' = { s with heap := s.heap.push (baObj #[]) }) (.int n u) ⟨rfl, rfl⟩) fun r s' hr => ?_)))
  cases r with
  | error e => exact hr.elim
  | ok f =>
    cases f with
    | ret v =>
      obtain ⟨rfl, rfl⟩ := hr
      refine ⟨hT, wpN_call (codeN_of_tree rfl ?_)⟩
      show wpN _ _ (checkBuiltinCall "bytearray.__init__" ⟨[.ref s.heap.objs.size, .int n u], []⟩ >>= fun _ => again (.builtin "bytearray.__init__" ⟨[.ref s.heap.objs.size, .int n u], []⟩)) _ _ _
      refine wpN_leaf (ba_slot_init.check _ _ _ _ _ _ _ _ hT (ba_args_init _ _) ?_)
      refine wpN_pure ⟨plainId_quiet ba_plain_init _, codeN_of_tree (hok2 _) ?_⟩
      rw [den_builtin ba_entry_init]
      exact ba_init ho hn hp fun h' hg hs => ⟨rfl, h h' hg fun b o e => hs.extBut b o (Nat.ne_of_lt (Heap.lt_size e)) (Heap.get?_push_of_some _ e)⟩
    | _ => exact hr.elim
end
end Mine

end

section
set_option maxRecDepth 100000
namespace Mine
open PySem PySem.W PySem.Calls PyProof.Rows
open Sem (wp)
section
variable {prog : Program} {w : World} {A : Around} {E : Value → Shared → Prop} {s : Shared}
theorem ba_set {a : Addr} {b : Array UInt8} {j : Nat} {c : UInt8} {t u : Tok} {Q : Unit → Shared → Prop} (ho : s.heap.get? a = some (baObj b)) (hj : j < b.size) (hb : b.size ≤ 1000)
    (h : ∀ h', h'.get? a = some (baObj (b.setIfInBounds j c)) → Heap.SameBut a s.heap h' → Q () { s with heap := h' }) :
    wpAny (model prog w) A (setItem (.ref a) (.int (j : Int) t) (.int (c.toNat : Int) u)) Q E s := by
  have hT : s.TypeIs (.ref a) "bytearray" := ⟨_, ho, rfl⟩
  unfold setItem
  refine wpAny_holding ?_
  refine wpAny_bind (wpAny_sequenceKey hT (by decide) ?_)
  refine wpAny_bind (wpAny_callSpecial?_slot (name := PySem.Str.ofString "__setitem__") hT ba_slot_set
    (wpAny_call_entry ba_slot_set hT ba_entry_set ?_ (ba_args_set _ _ _)))
  have e7 : specialOf (.int (j : Int) t) (Str.ofString "__index__") = pure (some (.builtin "int.__index__")) := F.slot_int_index.lookup
  have e6 : asIndex (.int (j : Int) t) = pure (j : Int) := rfl
  have e1 : Builtin.Bytes.fitsIndex (j : Int) = true := by simp only [Builtin.Bytes.fitsIndex]; simp; omega
  have e2 : Builtin.Bytes.subscript? (.int (j : Int) t) = pure (some (j : Int)) := by
    unfold Builtin.Bytes.subscript?
    simp only [e7, pure_bind, Option.isNone_some, Bool.false_eq_true, if_false, e6, e1, Bool.not_true]
  have hc : c.toNat < 256 := c.toNat_lt
  have e3 : Builtin.Bytes.byteValue (.int (c.toNat : Int) u) = pure c := by
    unfold Builtin.Bytes.byteValue
    have e4 : asIndex (.int (c.toNat : Int) u) = pure (c.toNat : Int) := rfl
    have e5 : (decide ((c.toNat : Int) < 0) || decide ((c.toNat : Int) ≥ 256)) = false := by
      rw [Bool.or_eq_false_iff]; constructor <;> rw [decide_eq_false_iff_not] <;> omega
    simp only [e4, pure_bind, e5, Bool.false_eq_true, if_false, Int.toNat_natCast]
    have e8 : c.toNat.toUInt8 = c := by simp
    rw [e8]
  unfold Builtin.«bytearray.__setitem__»
  simp only [List.isEmpty_nil, Bool.not_true, Bool.false_eq_true, if_false, e2, e3, pure_bind]
  refine wpAny_bind ?_
  unfold Builtin.Bytes.payload Builtin.Bytes.payload?
  refine wpAny_bind (wpAny_bind (wpAny_load ho (wpAny_pure (wpAny_pure ?_))))
  have e9 : seqIndex? (j : Int) b.size = some j := by
    unfold seqIndex?
    simp
    omega
  rw [e9]
  dsimp only
  refine wpAny_bind ?_
  show wpAny _ _ (updateBytearray a (·.setIfInBounds j c)) _ _ _
  unfold updateBytearray
  refine wpAny_bind (wpAny_load ho ?_)
  show wpAny _ _ (update a (Obj.mapBytearray (·.setIfInBounds j c)) >>= fun _ => lookBehind a) _ _ _
  refine wpAny_bind (wpAny_update ho ?_)
  have h2 : (s.heap.update a (Obj.mapBytearray (·.setIfInBounds j c))).get? a = some (baObj (b.setIfInBounds j c)) := Heap.get?_update_self (Obj.mapBytearray (·.setIfInBounds j c)) ho rfl
  refine wpAny_lookBehind h2 ?_ ?_
  · show (if (b.setIfInBounds j c).size > sizeLine then some "bytearray:memory" else none) = none
    rw [if_neg]
    rw [Array.size_setIfInBounds, sizeLine_eq]; omega
  · exact wpAny_pure ⟨_, rfl, wpAny_pure (h _ h2 (Heap.SameBut.update ..))⟩

/-- bytes(bytearray) -/
theorem ba_bytes {a : Addr} {b : Array UInt8} {Q : Value → Shared → Prop} (ho : s.heap.get? a = some (baObj b)) (hb : b.size ≤ 1000)
    (h : ∀ t k, Q (.bytes b t) { s with toks := k }) : wpAny (model prog w) A (call (.type "bytes") [.ref a]) Q E s := by
  have hT : s.TypeIs (.ref a) "bytearray" := ⟨_, ho, rfl⟩
  refine callType_codes (Q₁ := fun obj s₁ => s₁.TypeIs obj "bytes" ∧ Q obj s₁) F.bm_called (F.bm_typeCall _) F.entry_object_init ?_ fun obj s₁ h₁ => ?_
  · refine codeAny_of_tree ?_
    show wpAny _ A.in1.in1 (do checkBuiltinCall "bytes.__new__" ⟨[.type "bytes", .ref a], []⟩; again (.builtin "bytes.__new__" ⟨[.type "bytes", .ref a], []⟩)) _ _ s
    refine wpAny_bind (wpAny_of_eq (F.bm_newCall _) (wpAny_pure ⟨plainId_quiet F.bm_plain _, codeAny_builtin F.bm_entry ?_⟩))
    rw [Around.under_plainId F.bm_plain _]
    unfold Builtin.«bytes.__new__»
    refine wpAny_bind (wpAny_of_eq (a := true) rfl ?_)
    refine bm_if_false rfl ?_
    refine wpAny_bind (wpAny_of_eq F.bm_sub ?_)
    refine bm_if_false rfl ?_
    refine wpAny_bind (wpAny_of_eq (F.bm_bind _) ?_)
    refine wpAny_bind (wpAny_of_eq (a := ()) rfl ?_)
    refine wpAny_bind (wpAny_of_eq (a := ()) rfl ?_)
    refine bm_if_false rfl ?_
    refine wpAny_bind (wpAny_specialOf hT ba_no_bytes ?_)
    refine wpAny_bind (wpAny_bind ?_)
    show wpAny _ _ (load a >>= _) _ _ _
    refine wpAny_bind (wpAny_load ho ?_)
    refine wpAny_pure (wpAny_pure ?_)
    refine bm_if_false rfl ?_
    refine wpAny_bind (wpAny_specialOf hT ba_no_index ?_)
    refine bm_if_true rfl ?_
    first
      | show wpAny _ _ (Builtin.Bytes.buffer? "bytes.__new__" (.ref a) true >>= _) _ _ _
      | (refine wpAny_bind ?_; show wpAny _ _ (Builtin.Bytes.buffer? "bytes.__new__" (.ref a) true >>= _) _ _ _)
    refine wpAny_bind ?_
    unfold Builtin.Bytes.buffer?
    refine wpAny_bind (wpAny_specialOf hT ba_buffer ?_)
    refine wpAny_bind (ba_slot_own hT ba_buffer (by decide +kernel) (by decide +kernel) ?_)
    simp only [Bool.not_true, Bool.false_eq_true, if_false]
    refine wpAny_bind (wpAny_specialOf hT ba_buffer ?_)
    unfold Builtin.Bytes.ownRelease
    refine wpAny_bind (wpAny_bind (ba_slot_own hT ba_no_release (by decide +kernel) (by decide +kernel) (wpAny_pure ?_)))
    simp only [Bool.not_true, Bool.false_eq_true, if_false]
    unfold Builtin.Bytes.payload Builtin.Bytes.payload?
    refine wpAny_bind (wpAny_bind (wpAny_bind (wpAny_load ho (wpAny_pure (wpAny_pure (wpAny_pure ?_))))))
    refine wpAny_bind (wpAny_rule (wpAny_bind (wpAny_mkBytes ?_ (by rw [sizeLine_eq]; omega))))
    show wpAny _ _ (if (Value.type "bytes" == Value.type "bytes") = true then _ else _) _ _ _
    refine bm_if_true (by decide) ?_
    first
      | exact wpAny_pure ⟨typeIs_bytes _ _ _, h _ _⟩
      | exact wpAny_bind (wpAny_pure (wpAny_pure ⟨typeIs_bytes _ _ _, h _ _⟩))
  · exact ⟨h₁.1, F.args_object_init_2 obj _, object_init_meets F.bm_called.init.lookup F.bm_called.made (by decide) prog w A.in1 _ s₁ ⟨h₁.1, rfl, h₁.2⟩⟩
end
end Mine

end

section
set_option maxRecDepth 100000
namespace Mine
open PySem PySem.W PySem.Calls PyProof.Rows
open Sem (wp)
section
variable {M : Model} {A : Around} {E : Value → Shared → Prop} {s : Shared} {env : Env}

/-! statements and expressions on the path -/
theorem nExecs_nil {Q : Flow → Shared → Prop} (h : Q .next s) : wpN M A (execs [] env) Q E s := fun _ _ _ _ => h
theorem nExecs_cons {st rest} {Q : Flow → Shared → Prop}
    (h : wpN M A (exec st env) (fun f s' => match f with | .next => wpN M A (execs rest env) Q E s' | f => Q f s') E s) :
    wpN M A (execs (st :: rest) env) Q E s := by
  rw [execs_cons]
  refine wpN_bind (wpN_mono h (fun f s' h' => ?_) fun _ _ x => x)
  cases f <;> first | exact h' | exact wpN_pure h'
theorem nAssign_Name {x pos' value pos} {Q : Flow → Shared → Prop}
    (h : wpN M A (eval value env) (fun v s₁ => wpAny M A (storeName env x v) (fun _ s₂ => Q .next s₂) E s₁) E s)
    (hs : swapsWith value (some (.Name x pos')) pos.line env = pure false := by rfl) :
    wpN M A (exec (.Assign [.Name x pos'] value pos) env) Q E s := by
  rw [exec_Assign_Name env x pos' value pos hs]
  exact wpN_bind (wpN_standAt (wpN_bind (wpN_mono h (fun v s₁ h₁ => wpN_bind (wpN_standAt (wpN_leaf (wpAny_bindName (wpAny_mono h₁ (fun _ _ q => wpN_pure q) fun _ _ q => q))))) fun _ _ q => q)))
theorem nIf {test body orelse pos} {Q : Flow → Shared → Prop}
    (h : wpN M A (isTrue test env (eval test env)) (fun b s₂ => if b then wpN M A (execs body env) Q E s₂ else wpN M A (execs orelse env) Q E s₂) E s) :
    wpN M A (exec (.If test body orelse pos) env) Q E s := by
  rw [exec_If]
  refine wpN_bind (wpN_standAt (wpN_bind (wpN_mono h (fun b s₂ h₂ => ?_) fun _ _ q => q)))
  cases b <;> exact h₂
theorem wpN_operate {vs : List Value} {m : Sem Value} {Q : Value → Shared → Prop} (h : wpN M A m Q E s) : wpN M A (operate vs m) Q E s :=
  fun Γ p hΓ hN => by rw [Sem.wp_operate]; exact h Γ p hΓ hN
theorem nIsTrue_Compare1 {l op r pos whole} {Q : Bool → Shared → Prop}
    (h : wpN M A (eval l env) (fun a s₁ => wpN M A (eval r env) (fun b s₂ => wpAny M A (compareOp op a b)
      (fun c s₃ => wpAny M A (truthy c) Q E s₃) E s₂) E s₁) E s)
    (hm : behindInMarks op r = false := by with_unfolding_all rfl) : wpN M A (isTrue (.Compare l [op] [r] pos) env whole) Q E s := by
  rw [isTrue_Compare1]
  refine wpN_bind (wpN_mono h (fun a s₁ h₁ => wpN_bind (wpN_holding ?_)) fun _ _ q => q)
  rw [markedBehindIn_of_false hm]
  exact wpN_mono h₁ (fun b s₂ h₂ => wpN_bind (wpN_standAt (wpN_bind (wpN_operate (wpN_of (wpAny_mono h₂ (fun c s₃ h₃ => wpN_holding (wpN_of h₃)) fun _ _ q => q)))))) fun _ _ q => q
theorem nBinOp {l op r pos} {Q : Value → Shared → Prop}
    (h : wpN M A (eval l env) (fun a s₁ => wpN M A (eval r env) (fun b s₂ => wpAny M A (binaryOp op a b) Q E s₂) E s₁) E s) :
    wpN M A (eval (.BinOp l op r pos) env) Q E s := by
  rw [eval_BinOp]
  exact wpN_bind (wpN_mono h (fun a s₁ h₁ => wpN_bind (wpN_holding (wpN_mono h₁ (fun b s₂ h₂ => wpN_bind (wpN_standAt (wpN_operate (wpN_of h₂)))) fun _ _ q => q))) fun _ _ q => q)
theorem nReturn {e pos} {Q : Flow → Shared → Prop} (h : wpN M A (eval e env) (fun v => Q (.ret v)) E s) : wpN M A (exec (.Return (some e) pos) env) Q E s := by
  rw [exec_Return_some]
  exact wpN_bind (wpN_standAt (wpN_bind (wpN_mono h (fun v s' h' => wpN_pure h') fun _ _ q => q)))

/-! calls -/
def Kp (M : Model) (s : Shared) (f : Value) : Prop := ∃ k, (k = Keeper.frame ∨ k = Keeper.machine) ∧ ∀ (A : Around) (Q : Keeper → Shared → Prop) (E : Value → Shared → Prop), Q k s → wpAny M A (keeperOf f) Q E s
theorem kp_type {T : String} : Kp M s (.type T) := ⟨.machine, .inr rfl, fun _ _ _ q => wpAny_pure q⟩
theorem kp_builtin {id : String} : Kp M s (.builtin id) := ⟨.machine, .inr rfl, fun _ _ _ q => wpAny_pure q⟩
theorem kp_func {a : Addr} {o : Obj} {fd : FuncData} (ho : s.heap.get? a = some o) (hd : o.data = .func fd) : Kp M s (.ref a) := ⟨.frame, .inl rfl, fun _ _ _ q => by
  unfold keeperOf
  refine wpAny_bind (wpAny_load ho ?_)
  rw [hd]; exact wpAny_pure q⟩

theorem nSpliced_nil {Q : List Value → Shared → Prop} (h : Q [] s) : wpN M A (spliced []) Q E s := wpN_pure h
theorem nSpliced_cons {x : Sem Value} {rest : List (Bool × Sem Value)} {Q : List Value → Shared → Prop}
    (h : wpN M A x (fun v s₁ => wpN M A (spliced rest) (fun vs s₂ => Q (v :: vs) s₂) E s₁) E s) : wpN M A (spliced ((false, x) :: rest)) Q E s := by
  rw [spliced]
  refine wpN_bind (wpN_mono h (fun v s₁ h₁ => ?_) fun _ _ x => x)
  simp only [Bool.false_eq_true, if_false]
  exact wpN_bind (wpN_pure (wpN_bind (wpN_holding (wpN_mono h₁ (fun vs s₂ h₂ => wpN_pure h₂) fun _ _ x => x))))
theorem nCallWith {pos : Pos} {f : Value} {x : Sem Value} {rest : List (Bool × Sem Value)} {Q : Value → Shared → Prop} (hplain : rest.any (·.1) = false)
    (h : wpN M A (spliced ((false, x) :: rest)) (fun vs s₁ => Kp M s₁ f ∧ wpN M A (call f vs) Q E s₁) E s) :
    wpN M A (callWith pos f [] ((false, x) :: rest) []) Q E s := by
  unfold callWith
  refine wpN_bind (wpN_holding ?_)
  unfold evalArgs
  show wpN M A (spliced ((false, x) :: rest) >>= _) _ _ _
  refine wpN_bind (wpN_mono h (fun vs s₁ h₁ => ?_) fun _ _ x => x)
  refine wpN_holding ?_
  refine wpN_bind (wpN_pure (wpN_bind (wpN_pure (wpN_pure ?_))))
  refine wpN_bind (wpN_standAt ?_)
  obtain ⟨⟨k, hk, hq⟩, hc⟩ := h₁
  have e : (((false, x) :: rest).any (·.1) || ([] : List (Option Str × Sem Value)).any (·.1.isNone)) = false := by simp [hplain]
  simp only [e]
  refine wpN_leaf (hq _ _ _ ?_)
  have tail : ∀ {t : Sem Value}, wpN M A t Q E s₁ → wpN M A (t >>= fun r => holding [r] point >>= fun _ => pure r) Q E s₁ :=
    fun ht => wpN_bind (wpN_mono ht (fun r s₂ hr => wpN_bind (wpN_holding (wpN_point (wpN_pure hr)))) fun _ _ x => x)
  have hc' : wpN M A (call f ([] ++ vs) []) Q E s₁ := hc
  have marked (mk : Value) : wpN M A (callMarked mk f ([] ++ vs) []) Q E s₁ := by unfold callMarked; exact wpN_keep hc'
  rcases hk with rfl | rfl <;> dsimp only
  · split
    · exact tail hc'
    · exact tail (marked _)
  · exact tail hc'
/-- f(e) on the path -/
theorem nCall1 {f : Str} {p pos : Pos} {e : Expr} {Q : Value → Shared → Prop} (hs : backTo pos (starEach [e] env) = [(false, eval e env)])
    (h : wpAny M A (eval (.Name f p) env) (fun fv s₀ => wpN M A (eval e env) (fun v s₁ => Kp M s₁ fv ∧ wpN M A (call fv [v]) Q E s₁) E s₀) E s) :
    wpN M A (eval (.Call (.Name f p) [e] [] pos) env) Q E s := by
  rw [arm_eval_Call_Name']
  refine wpN_leaf (wpAny_mono h (fun fv s₀ h₀ => ?_) fun _ _ x => x)
  rw [hs]
  exact nCallWith rfl (nSpliced_cons (wpN_mono h₀ (fun v s₁ h₁ => nSpliced_nil h₁) fun _ _ x => x))
/-- f(e1, e2) on the path -/
theorem nCall2 {f : Str} {p pos : Pos} {e1 e2 : Expr} {Q : Value → Shared → Prop} (hs : backTo pos (starEach [e1, e2] env) = [(false, eval e1 env), (false, eval e2 env)])
    (h : wpAny M A (eval (.Name f p) env) (fun fv s₀ => wpN M A (eval e1 env) (fun v1 s₁ => wpN M A (eval e2 env) (fun v2 s₂ => Kp M s₂ fv ∧ wpN M A (call fv [v1, v2]) Q E s₂) E s₁) E s₀) E s) :
    wpN M A (eval (.Call (.Name f p) [e1, e2] [] pos) env) Q E s := by
  rw [arm_eval_Call_Name']
  refine wpN_leaf (wpAny_mono h (fun fv s₀ h₀ => ?_) fun _ _ x => x)
  rw [hs]
  exact nCallWith rfl (nSpliced_cons (wpN_mono h₀ (fun v s₁ h₁ => nSpliced_cons (wpN_mono h₁ (fun v2 s₂ h₂ => nSpliced_nil h₂) fun _ _ x => x)) fun _ _ x => x))
/-- the same off the path -/
theorem aCallWith {pos : Pos} {f : Value} {x : Sem Value} {rest : List (Bool × Sem Value)} {Q : Value → Shared → Prop} (hplain : rest.any (·.1) = false)
    (h : wpAny M A (spliced ((false, x) :: rest)) (fun vs s₁ => Kp M s₁ f ∧ wpAny M A (call f vs) Q E s₁) E s) :
    wpAny M A (callWith pos f [] ((false, x) :: rest) []) Q E s := by
  unfold callWith
  refine wpAny_bind (wpAny_holding (evalArgs_plain (wpAny_mono h (fun vs s₁ h₁ => ?_) fun _ _ x => x)))
  refine wpAny_bind (wpAny_standAt ?_)
  obtain ⟨⟨k, hk, hq⟩, hc⟩ := h₁
  have e : (((false, x) :: rest).any (·.1) || ([] : List (Option Str × Sem Value)).any (·.1.isNone)) = false := by simp [hplain]
  simp only [e]
  refine wpAny_bind (hq _ _ _ ?_)
  have tail : ∀ {t : Sem Value}, wpAny M A t Q E s₁ → wpAny M A (t >>= fun r => holding [r] point >>= fun _ => pure r) Q E s₁ :=
    fun ht => wpAny_bind (wpAny_mono ht (fun r s₂ hr => wpAny_bind (wpAny_holding (wpAny_point (wpAny_pure hr)))) fun _ _ x => x)
  have hc' : wpAny M A (call f ([] ++ vs) []) Q E s₁ := hc
  have marked (mk : Value) : wpAny M A (callMarked mk f ([] ++ vs) []) Q E s₁ := by unfold callMarked; exact Calls.wpAny_keep hc'
  rcases hk with rfl | rfl <;> dsimp only
  · split
    · exact tail hc'
    · exact tail (marked _)
  · exact tail hc'
theorem aCall1 {f : Str} {p pos : Pos} {e : Expr} {Q : Value → Shared → Prop} (hs : backTo pos (starEach [e] env) = [(false, eval e env)])
    (h : wpAny M A (eval (.Name f p) env) (fun fv s₀ => wpAny M A (eval e env) (fun v s₁ => Kp M s₁ fv ∧ wpAny M A (call fv [v]) Q E s₁) E s₀) E s) :
    wpAny M A (eval (.Call (.Name f p) [e] [] pos) env) Q E s := by
  rw [arm_eval_Call_Name']
  refine wpAny_bind (wpAny_mono h (fun fv s₀ h₀ => ?_) fun _ _ x => x)
  rw [hs]
  exact aCallWith rfl (spliced_cons (wpAny_mono h₀ (fun v s₁ h₁ => spliced_nil h₁) fun _ _ x => x))
theorem aCall2 {f : Str} {p pos : Pos} {e1 e2 : Expr} {Q : Value → Shared → Prop} (hs : backTo pos (starEach [e1, e2] env) = [(false, eval e1 env), (false, eval e2 env)])
    (h : wpAny M A (eval (.Name f p) env) (fun fv s₀ => wpAny M A (eval e1 env) (fun v1 s₁ => wpAny M A (eval e2 env) (fun v2 s₂ => Kp M s₂ fv ∧ wpAny M A (call fv [v1, v2]) Q E s₂) E s₁) E s₀) E s) :
    wpAny M A (eval (.Call (.Name f p) [e1, e2] [] pos) env) Q E s := by
  rw [arm_eval_Call_Name']
  refine wpAny_bind (wpAny_mono h (fun fv s₀ h₀ => ?_) fun _ _ x => x)
  rw [hs]
  exact aCallWith rfl (spliced_cons (wpAny_mono h₀ (fun v s₁ h₁ => spliced_cons (wpAny_mono h₁ (fun v2 s₂ h₂ => spliced_nil h₂) fun _ _ x => x)) fun _ _ x => x))
theorem aCall3 {f : Str} {p pos : Pos} {e1 e2 e3 : Expr} {Q : Value → Shared → Prop} (hs : backTo pos (starEach [e1, e2, e3] env) = [(false, eval e1 env), (false, eval e2 env), (false, eval e3 env)])
    (h : wpAny M A (eval (.Name f p) env) (fun fv s₀ => wpAny M A (eval e1 env) (fun v1 s₁ => wpAny M A (eval e2 env) (fun v2 s₂ => wpAny M A (eval e3 env) (fun v3 s₃ => Kp M s₃ fv ∧ wpAny M A (call fv [v1, v2, v3]) Q E s₃) E s₂) E s₁) E s₀) E s) :
    wpAny M A (eval (.Call (.Name f p) [e1, e2, e3] [] pos) env) Q E s := by
  rw [arm_eval_Call_Name']
  refine wpAny_bind (wpAny_mono h (fun fv s₀ h₀ => ?_) fun _ _ x => x)
  rw [hs]
  exact aCallWith rfl (spliced_cons (wpAny_mono h₀ (fun v s₁ h₁ => spliced_cons (wpAny_mono h₁ (fun v2 s₂ h₂ => spliced_cons (wpAny_mono h₂ (fun v3 s₃ h₃ => spliced_nil h₃) fun _ _ x => x)) fun _ _ x => x)) fun _ _ x => x))
theorem aCall4 {f : Str} {p pos : Pos} {e1 e2 e3 e4 : Expr} {Q : Value → Shared → Prop} (hs : backTo pos (starEach [e1, e2, e3, e4] env) = [(false, eval e1 env), (false, eval e2 env), (false, eval e3 env), (false, eval e4 env)])
    (h : wpAny M A (eval (.Name f p) env) (fun fv s₀ => wpAny M A (eval e1 env) (fun v1 s₁ => wpAny M A (eval e2 env) (fun v2 s₂ => wpAny M A (eval e3 env) (fun v3 s₃ => wpAny M A (eval e4 env) (fun v4 s₄ => Kp M s₄ fv ∧ wpAny M A (call fv [v1, v2, v3, v4]) Q E s₄) E s₃) E s₂) E s₁) E s₀) E s) :
    wpAny M A (eval (.Call (.Name f p) [e1, e2, e3, e4] [] pos) env) Q E s := by
  rw [arm_eval_Call_Name']
  refine wpAny_bind (wpAny_mono h (fun fv s₀ h₀ => ?_) fun _ _ x => x)
  rw [hs]
  exact aCallWith rfl (spliced_cons (wpAny_mono h₀ (fun v s₁ h₁ => spliced_cons (wpAny_mono h₁ (fun v2 s₂ h₂ => spliced_cons (wpAny_mono h₂ (fun v3 s₃ h₃ => spliced_cons (wpAny_mono h₃ (fun v4 s₄ h₄ => spliced_nil h₄) fun _ _ x => x)) fun _ _ x => x)) fun _ _ x => x)) fun _ _ x => x))
end
end Mine

end

section
set_option maxRecDepth 100000
namespace Mine
open PySem PySem.W PySem.Calls PyProof.Rows
open Sem (wp)

section
variable {prog : Program} {w : World} {A : Around} {E : Value → Shared → Prop} {s : Shared} {env : Env}
/-- a for over a walker -/
theorem forWalk {R : Result → Shared → Prop} {x : Str} {px : Pos} {body : List Stmt} {I : Addr} {fp wr : List Addr} {n : Nat} {P : Nat → Value → Prop} {St : Nat → Heap → Prop}
    (W : Walks prog w A I fp wr n P St) (J : Nat → Shared → Prop)
    (hnext : ∀ i s h' tk, J i s → (∀ b o, b ∉ wr → s.heap.get? b = some o → h'.get? b = some o) → J i { s with heap := h', toks := tk })
    (hbody : ∀ i v s, i < n → P i v → St (i + 1) s.heap → J i s → wpAny (model prog w) A (storeName env x v) (fun _ s₁ => wpAny (model prog w) A (execs body env)
      (fun f s₂ => f = .next ∧ J (i + 1) s₂ ∧ ∀ b ∈ fp, ∀ o, s.heap.get? b = some o → s₂.heap.get? b = some o) (fun _ _ => False) s₁) (fun _ _ => False) s)
    (hst : St 0 s.heap) (h0 : J 0 s) (hR : ∀ s', J n s' → R (.ok .next) s') (ht : ∀ v, letOwnedTupleGo (.Name x px) (.ref I) v = pure () := by intro _; rfl) :
    codeAny (model prog w) A (.forLoop (.Name x px) (.ref I) body [] env) R s := by
  refine codeAny_forLoop_any (fun k s' => ∃ i, k = n + 1 - i ∧ i ≤ n ∧ St i s'.heap ∧ J i s') ?_ (n + 1) ⟨0, rfl, Nat.zero_le _, hst, h0⟩
  rintro k s' ⟨i, rfl, hi, hst', hJ⟩
  by_cases hlt : i < n
  · refine W.item i _ _ _ hlt hst' fun v h' tk hP hst₁ hk₁ => ?_
    refine wpAny_of_eq (ht v) (wpAny_assign_Name (wpAny_mono (hbody i v _ hlt hP hst₁ (hnext i _ h' tk hJ hk₁)) (fun _ s₁ h₁ => wpAny_mono h₁ (fun f s₂ h₂ => ?_) fun _ _ q => q.elim) fun _ _ q => q.elim))
    obtain ⟨rfl, hJ', hf⟩ := h₂
    exact ⟨n + 1 - (i + 1), by omega, i + 1, rfl, hlt, W.frame _ _ _ hst₁ hf, hJ'⟩
  · obtain rfl : i = n := by omega
    refine W.done _ _ _ hst' fun h' tk hk₁ => ?_
    exact wpAny_execs_nil (hR _ (hnext _ _ h' tk hJ hk₁))
end

section
variable {M : Model} {A : Around} {E : Value → Shared → Prop} {s₀ s : Shared} {m cm : Str → Option Value} {env : Env}
theorem icWalked {L : Addr} {cs : List (Str × Addr)} {wr : List Addr} (x : InCallC s₀ L m cs cm s) {h' : Heap} {tk : Nat} (hk : ∀ b o, b ∉ wr → s.heap.get? b = some o → h'.get? b = some o)
    (hL : L ∉ wr) (hc : ∀ n c, (n, c) ∈ cs → c ∉ wr) (hn : ∀ b ∈ wr, s₀.heap.get? b = none) : InCallC s₀ L m cs cm { s with heap := h', toks := tk } := by
  refine ⟨⟨?_, x.toInCall.ns.at' fun o e => hk _ o hL e, fun b o e => ?_, x.toInCall.fresh⟩, fun k c hkc => ?_, x.apart, x.above⟩
  · obtain ⟨h₁, tk₁, rfl⟩ := x.toInCall.same; exact ⟨h', tk, rfl⟩
  · refine hk b o (fun hb => ?_) (x.toInCall.keep b o e)
    rw [hn b hb] at e; cases e
  · obtain ⟨o, ho, hd⟩ := x.cell k c hkc
    exact ⟨o, hk c o (hc k c (mem_of_lookup hkc)) ho, hd⟩
theorem icKeep {L : Addr} {cs : List (Str × Addr)} (x : InCallC s₀ L m cs cm s) : Hk s₀.heap s.heap := x.toInCall.keep
theorem icKeeps {L : Addr} {cs : List (Str × Addr)} (x : InCallC s₀ L m cs cm s) : Keeps s₀ s := let ⟨h', tk, e, k⟩ := x.done; ⟨h', tk, e, k⟩
end
theorem kRefl (s : Shared) : Keeps s s := ⟨s.heap, s.toks, rfl, fun _ _ e => e⟩
theorem kHk {s s' : Shared} (k : Keeps s s') : Hk s.heap s'.heap := by obtain ⟨h, tk, rfl, e⟩ := k; exact e
theorem kTrans {s s' s'' : Shared} (k : Keeps s s') (l : Keeps s' s'') : Keeps s s'' := by
  obtain ⟨h, tk, rfl, e⟩ := k
  obtain ⟨h', tk', rfl, e'⟩ := l
  exact ⟨h', tk', rfl, fun b o q => e' b o (e b o q)⟩
theorem kTok {s : Shared} (k : Nat) : Keeps s { s with toks := k } := ⟨s.heap, k, rfl, fun _ _ e => e⟩
theorem kPush {s : Shared} (o : Obj) (k : Nat) : Keeps s { s with heap := s.heap.push o, toks := k } := ⟨_, k, rfl, fun _ _ e => Heap.get?_push_of_some _ e⟩
theorem fresh_none {h : Heap} {a : Addr} (ha : h.objs.size ≤ a) : h.get? a = none := by
  cases e : h.get? a with
  | none => rfl
  | some o => exact absurd (Heap.lt_size e) (Nat.not_lt.mpr ha)

/-! the swapper -/
theorem rev_arr {b arr : Array UInt8} (hs : arr.size = b.size) (h : ∀ k, k < b.size → arr[b.size - 1 - k]? = b[k]?) : arr = b.reverse := by
  apply Array.ext
  · simp [hs]
  · intro i h1 h2
    have hi : i < b.size := by omega
    have := h (b.size - 1 - i) (by omega)
    rw [show b.size - 1 - (b.size - 1 - i) = i by omega] at this
    rw [Array.getElem?_eq_getElem h1, Array.getElem?_eq_getElem (by omega)] at this
    rw [Array.getElem_reverse]
    exact Option.some.inj this

end Mine

end

section
set_option maxRecDepth 100000
namespace Mine
open PySem PySem.W PySem.Calls PyProof.Rows
open Sem (wp)

structure EO (env : Env) : Prop where
  hk : env.scope.kind = .function
  hg : env.globals = mainGlobals
  hb : env.builtins = builtinsNs
theorem EO.hp {env : Env} (e : EO env) : (env.scope.kind == .class || (env.scope.kind == .module && env.locals != env.globals)) = false := by rw [e.hk]; rfl
section
variable {M : Model} {w : World} {A : Around} {E : Value → Shared → Prop} {s : Shared} {env : Env} {pos : Pos} {Q : Value → Shared → Prop}
theorem nm_len (B : Bs w s.heap) (e : EO env) (k : env.kindOf "len" = some .globalImplicit) (h : Q (.builtin "len") s) : wpAny M A (eval (.Name "len" pos) env) Q E s :=
  nmB (v := .builtin "len") B (by kernel_rfl) (by kernel_rfl) (by decide) e.hg e.hb e.hk k (by decide) h
theorem nm_ord (B : Bs w s.heap) (e : EO env) (k : env.kindOf "ord" = some .globalImplicit) (h : Q (.builtin "ord") s) : wpAny M A (eval (.Name "ord" pos) env) Q E s :=
  nmB (v := .builtin "ord") B (by kernel_rfl) (by kernel_rfl) (by decide) e.hg e.hb e.hk k (by decide) h
theorem nm_chr (B : Bs w s.heap) (e : EO env) (k : env.kindOf "chr" = some .globalImplicit) (h : Q (.builtin "chr") s) : wpAny M A (eval (.Name "chr" pos) env) Q E s :=
  nmB (v := .builtin "chr") B (by kernel_rfl) (by kernel_rfl) (by decide) e.hg e.hb e.hk k (by decide) h
theorem nm_sum (B : Bs w s.heap) (e : EO env) (k : env.kindOf "sum" = some .globalImplicit) (h : Q (.builtin "sum") s) : wpAny M A (eval (.Name "sum" pos) env) Q E s :=
  nmB (v := .builtin "sum") B (by kernel_rfl) (by kernel_rfl) (by decide) e.hg e.hb e.hk k (by decide) h
theorem nm_isinstance (B : Bs w s.heap) (e : EO env) (k : env.kindOf "isinstance" = some .globalImplicit) (h : Q (.builtin "isinstance") s) : wpAny M A (eval (.Name "isinstance" pos) env) Q E s :=
  nmB (v := .builtin "isinstance") B (by kernel_rfl) (by kernel_rfl) (by decide) e.hg e.hb e.hk k (by decide) h
theorem nm_range (B : Bs w s.heap) (e : EO env) (k : env.kindOf "range" = some .globalImplicit) (h : Q (.type "range") s) : wpAny M A (eval (.Name "range" pos) env) Q E s :=
  nmB (v := .type "range") B (by kernel_rfl) (by kernel_rfl) (by decide) e.hg e.hb e.hk k (by decide) h
theorem nm_bytes (B : Bs w s.heap) (e : EO env) (k : env.kindOf "bytes" = some .globalImplicit) (h : Q (.type "bytes") s) : wpAny M A (eval (.Name "bytes" pos) env) Q E s :=
  nmB (v := .type "bytes") B (by kernel_rfl) (by kernel_rfl) (by decide) e.hg e.hb e.hk k (by decide) h
theorem nm_bytearray (B : Bs w s.heap) (e : EO env) (k : env.kindOf "bytearray" = some .globalImplicit) (h : Q (.type "bytearray") s) : wpAny M A (eval (.Name "bytearray" pos) env) Q E s :=
  nmB (v := .type "bytearray") B (by kernel_rfl) (by kernel_rfl) (by decide) e.hg e.hb e.hk k (by decide) h
theorem nm_set (B : Bs w s.heap) (e : EO env) (k : env.kindOf "set" = some .globalImplicit) (h : Q (.type "set") s) : wpAny M A (eval (.Name "set" pos) env) Q E s :=
  nmB (v := .type "set") B (by kernel_rfl) (by kernel_rfl) (by decide) e.hg e.hb e.hk k (by decide) h
theorem nm_filter (B : Bs w s.heap) (e : EO env) (k : env.kindOf "filter" = some .globalImplicit) (h : Q (.type "filter") s) : wpAny M A (eval (.Name "filter" pos) env) Q E s :=
  nmB (v := .type "filter") B (by kernel_rfl) (by kernel_rfl) (by decide) e.hg e.hb e.hk k (by decide) h
theorem nm_list (B : Bs w s.heap) (e : EO env) (k : env.kindOf "list" = some .globalImplicit) (h : Q (.type "list") s) : wpAny M A (eval (.Name "list" pos) env) Q E s :=
  nmB (v := .type "list") B (by kernel_rfl) (by kernel_rfl) (by decide) e.hg e.hb e.hk k (by decide) h
theorem nm_byteswap (B : Bs w s.heap) (e : EO env) (k : env.kindOf "_byteswap" = some .globalImplicit) (h : Q (.ref 28) s) : wpAny M A (eval (.Name "_byteswap" pos) env) Q E s :=
  nmG B (by kernel_rfl) e.hg e.hk k (by decide) h
theorem nm_Entry (B : Bs w s.heap) (e : EO env) (k : env.kindOf "Entry" = some .globalImplicit) (h : Q (.ref 66) s) : wpAny M A (eval (.Name "Entry" pos) env) Q E s :=
  nmG B (by kernel_rfl) e.hg e.hk k (by decide) h
theorem nm_merge (B : Bs w s.heap) (e : EO env) (k : env.kindOf "merge_entries" = some .globalImplicit) (h : Q (.ref 77) s) : wpAny M A (eval (.Name "merge_entries" pos) env) Q E s :=
  nmG B (by kernel_rfl) e.hg e.hk k (by decide) h
theorem nm_text (B : Bs w s.heap) (e : EO env) (k : env.kindOf "_law_text" = some .globalImplicit) (h : Q (.ref 82) s) : wpAny M A (eval (.Name "_law_text" pos) env) Q E s :=
  nmG B (by kernel_rfl) e.hg e.hk k (by decide) h
theorem nm_turned (B : Bs w s.heap) (e : EO env) (k : env.kindOf "_law_turned" = some .globalImplicit) (h : Q (.ref 87) s) : wpAny M A (eval (.Name "_law_turned" pos) env) Q E s :=
  nmG B (by kernel_rfl) e.hg e.hk k (by decide) h
theorem nm_record (B : Bs w s.heap) (e : EO env) (k : env.kindOf "_law_record" = some .globalImplicit) (h : Q (.ref 94) s) : wpAny M A (eval (.Name "_law_record" pos) env) Q E s :=
  nmG B (by kernel_rfl) e.hg e.hk k (by decide) h
theorem nm_cut (B : Bs w s.heap) (e : EO env) (k : env.kindOf "_law_cut" = some .globalImplicit) (h : Q (.ref 99) s) : wpAny M A (eval (.Name "_law_cut" pos) env) Q E s :=
  nmG B (by kernel_rfl) e.hg e.hk k (by decide) h
theorem nm_mirrors (B : Bs w s.heap) (e : EO env) (k : env.kindOf "_law_mirrors" = some .globalImplicit) (h : Q (.ref 104) s) : wpAny M A (eval (.Name "_law_mirrors" pos) env) Q E s :=
  nmG B (by kernel_rfl) e.hg e.hk k (by decide) h
theorem nm_laid (B : Bs w s.heap) (e : EO env) (k : env.kindOf "_law_laid" = some .globalImplicit) (h : Q (.ref 109) s) : wpAny M A (eval (.Name "_law_laid" pos) env) Q E s :=
  nmG B (by kernel_rfl) e.hg e.hk k (by decide) h
theorem kp28 (B : Bs w s.heap) : Kp M s (.ref 28) := kp_func (B.X 28 _ rfl) rfl
theorem kp77 (B : Bs w s.heap) : Kp M s (.ref 77) := kp_func (B.X 77 _ rfl) rfl
theorem kp82 (B : Bs w s.heap) : Kp M s (.ref 82) := kp_func (B.X 82 _ rfl) rfl
theorem kp87 (B : Bs w s.heap) : Kp M s (.ref 87) := kp_func (B.X 87 _ rfl) rfl
theorem kp94 (B : Bs w s.heap) : Kp M s (.ref 94) := kp_func (B.X 94 _ rfl) rfl
theorem kp99 (B : Bs w s.heap) : Kp M s (.ref 99) := kp_func (B.X 99 _ rfl) rfl
theorem kp104 (B : Bs w s.heap) : Kp M s (.ref 104) := kp_func (B.X 104 _ rfl) rfl
theorem kp109 (B : Bs w s.heap) : Kp M s (.ref 109) := kp_func (B.X 109 _ rfl) rfl
end
end Mine

end

section
set_option maxRecDepth 100000
namespace Mine
open PySem PySem.W PySem.Calls PyProof.Rows
open Sem (wp)
section
variable {M : Model} {A : Around} {E : Value → Shared → Prop} {s₀ s : Shared} {m cm : Str → Option Value} {env : Env}
/-- a name of the frame stored -/
theorem stL {n : Str} {v : Value} {Q : Unit → Shared → Prop} (x : InCallC s₀ env.locals m env.cells cm s) (hk : env.scope.kind = .function) (hl : env.kindOf n = some .local)
    (h : ∀ s', InCallC s₀ env.locals (fun y => if y = n then some v else m y) env.cells cm s' → (∀ b o, b ≠ env.locals → s.heap.get? b = some o → s'.heap.get? b = some o) → Q () s') : wpAny M A (storeName env n v) Q E s := by
  refine wpAny_storeName_local hl x.toInCall.ns (fun h' hn' hs' => h _ ⟨⟨?_, hn', fun b o e => ?_, x.toInCall.fresh⟩, fun k c hc => ?_, x.apart, x.above⟩ fun b o hb e => hs'.extBut b o hb e) (by rw [hk]; rfl)
  · obtain ⟨h₁, tk, rfl⟩ := x.toInCall.same
    exact ⟨h', _, rfl⟩
  · exact hs'.extBut b o (Nat.ne_of_lt (Nat.lt_of_lt_of_le (Heap.lt_size e) x.toInCall.fresh)) (x.toInCall.keep b o e)
  · exact (x.cell k c hc).sameBut hs' (Nat.ne_of_gt (x.above k c (mem_of_lookup hc)))
theorem stC {n : Str} {c : Addr} {v : Value} {Q : Unit → Shared → Prop} (x : InCallC s₀ env.locals m env.cells cm s) (hk : env.scope.kind = .function) (hl : env.kindOf n = some .cell)
    (hc : env.cells.lookup n = some c)
    (h : ∀ s', InCallC s₀ env.locals m env.cells (fun y => if y = n then some v else cm y) s' → (∀ b o, b ≠ c → s.heap.get? b = some o → s'.heap.get? b = some o) → Q () s') : wpAny M A (storeName env n v) Q E s := by
  have hLc := x.above n c (mem_of_lookup hc)
  refine wpAny_storeName_cell hk hl hc (x.cell n c hc) fun h' hc' hs' => h _ ⟨⟨?_, x.toInCall.ns.sameBut hs' (Nat.ne_of_lt hLc), fun b o e => ?_, x.toInCall.fresh⟩, fun k c' hk' => ?_, x.apart, x.above⟩ fun b o hb e => hs'.extBut b o hb e
  · obtain ⟨h₁, tk, rfl⟩ := x.toInCall.same
    exact ⟨h', _, rfl⟩
  · exact hs'.extBut b o (Nat.ne_of_lt (Nat.lt_trans (Nat.lt_of_lt_of_le (Heap.lt_size e) x.toInCall.fresh) hLc)) (x.toInCall.keep b o e)
  · by_cases hkn : k = n
    · subst hkn
      rw [hc] at hk'; cases hk'
      simpa using hc'
    · simp only [if_neg hkn]
      exact (x.cell k c' hk').sameBut hs' fun e => hkn (name_of_addr x.apart (mem_of_lookup hk') (e ▸ mem_of_lookup hc))
theorem icLt {L : Addr} {cs : List (Str × Addr)} (x : InCallC s₀ L m cs cm s) : @LT.lt Nat _ L s.heap.objs.size := x.toInCall.ns.lt
theorem icSize {L : Addr} {cs : List (Str × Addr)} (x : InCallC s₀ L m cs cm s) : s₀.heap.objs.size ≤ s.heap.objs.size := Nat.le_of_lt (Nat.lt_of_le_of_lt x.toInCall.fresh (icLt x))
theorem icCellLt {L : Addr} {cs : List (Str × Addr)} (x : InCallC s₀ L m cs cm s) {n : Str} {c : Addr} (h : cs.lookup n = some c) : @LT.lt Nat _ c s.heap.objs.size := (x.cell n c h).lt
end

structure SwSt (s₀ : Shared) (env : Env) (a : Addr) (b : Array UInt8) (t u : Tok) (ex : Heap) (fp : List Addr) (iv : Option Value) (j : Nat) (s : Shared) : Prop where
  x : ∃ m, InCallC s₀ env.locals m env.cells (fun _ => none) s ∧ m "data" = some (.bytes b t) ∧ m "width" = some (.int b.size u) ∧ m "swapped_data" = some (.ref a) ∧ (∀ v, iv = some v → m "i" = some v)
  o : ∃ arr, s.heap.get? a = some (baObj arr) ∧ arr.size = b.size ∧ ∀ k, k < j → arr[b.size - 1 - k]? = b[k]?
  kp : ∀ c ∈ fp, ∀ o, ex.get? c = some o → s.heap.get? c = some o
theorem SwSt.walked {s₀ s : Shared} {env : Env} {a : Addr} {b : Array UInt8} {t u : Tok} {ex : Heap} {fp : List Addr} {iv : Option Value} {j : Nat} {I : Addr} (hc : env.cells = []) (S : SwSt s₀ env a b t u ex fp iv j s)
    (hL : env.locals ≠ I) (ha : a ≠ I) (hn : s₀.heap.get? I = none) (hf : I ∉ fp) {h' : Heap} {tk : Nat} (hk : ∀ c o, c ∉ [I] → s.heap.get? c = some o → h'.get? c = some o) : SwSt s₀ env a b t u ex fp iv j { s with heap := h', toks := tk } := by
  obtain ⟨⟨m, x, r⟩, ⟨arr, ho, ra⟩, kp⟩ := S
  refine ⟨⟨m, icWalked x hk (by simpa using hL) (by rw [hc]; intro n c h; cases h) (by simpa using hn), r⟩, ⟨arr, hk a _ (by simpa using ha) ho, ra⟩, fun c hcm o e => hk c o (by simp; rintro rfl; exact hf hcm) (kp c hcm o e)⟩
theorem rangeOne (n : Nat) (h : 0 < n) : Builtin.Range.rangeSize 0 n n = ((1 : Nat) : Int) := by
  unfold Builtin.Range.rangeSize
  rw [if_pos (by omega), if_pos (by omega)]
  rw [Int.ediv_eq_zero_of_lt (by omega) (by omega)]
  rfl
theorem smallN (n : Nat) (h : 0 < n) (h1 : n ≤ 1000) : Builtin.Range.small 0 n n = true := by
  unfold Builtin.Range.small
  rw [rangeOne n h]
  simp only [Builtin.Range.rangeFitsLong, Bool.and_eq_true, Bool.or_eq_true, decide_eq_true_eq, beq_iff_eq]
  refine ⟨by omega, .inr ?_⟩
  rw [if_pos (by omega)]
  simp only [Bool.and_eq_true, decide_eq_true_eq]
  omega
theorem bytes_item {prog : Program} {w : World} {A : Around} {s : Shared} {Q : Value → Shared → Prop} {E : Value → Shared → Prop} {value slice : Expr} {b : Array UInt8} {i : Int} {j : Nat} {t ui : Tok} (hi : i = (j : Int)) (hj : j < b.size) (hb : b.size ≤ 1000)
    (h : Q (.int (b[j].toNat : Int) s.toks) { s with toks := s.toks + 1 })
    (hs : ∀ x, subscripted slice false (.bytes x t) (.int i ui) = operate [.bytes x t, .int i ui] (getItem (.bytes x t) (.int i ui)) := by intro _; with_unfolding_all rfl)
    (ht : ∀ x r, letTemporaryGo value (.bytes x t) r = pure () := by intro _ _; with_unfolding_all rfl) :
    wpAny (model prog w) A (subscriptTail value slice (.bytes b t) (.int i ui)) Q E s := by
  obtain ⟨l⟩ := b
  subst hi
  have hl : j < l.length := hj
  have hz : l.length ≤ 1000 := hb
  refine KBy.item_N (x := l) (by omega) (by omega) (by omega) ?_ (hs _) (ht _)
  have e : l.getD (j : Int).toNat 0 = l[j] := by rw [Int.toNat_natCast, List.getD_eq_getElem?_getD, List.getElem?_eq_getElem hl]; rfl
  rw [e]
  exact h
theorem bs_spec {prog : Program} {w : World} {A : Around} {s : Shared} {Q : Value → Shared → Prop} {E : Value → Shared → Prop} {b : Array UInt8} {t u : Tok} (B : Bs w s.heap) (ok : OkA 1 A) (h0 : 0 < b.size) (h1 : b.size ≤ 1000)
    (h : ∀ t' s', Keeps s s' → Q (.bytes b.reverse t') s') :
    wpN (model prog w) A (call (.ref 28) [.bytes b t, .int b.size u]) Q E s := by
  refine enterN (f := 28) (binds := [("data", .bytes b t), ("width", .int b.size u)]) B ok.room rfl ?_ rfl rfl rfl rfl rfl rfl rfl ?_
  · kernel_rfl
  intro env s₁ he x
  have hk : env.scope.kind = .function := by rw [he]; rfl
  have e : EO env := ⟨hk, by rw [he]; rfl, by rw [he]; rfl⟩
  have k1 : env.kindOf "data" = some .local := by rw [he]; rfl
  have k2 : env.kindOf "width" = some .local := by rw [he]; rfl
  have k3 : env.kindOf "swapped_data" = some .local := by rw [he]; rfl
  have k4 : env.kindOf "i" = some .local := by rw [he]; rfl
  have k5 : env.kindOf "j" = some .local := by rw [he]; rfl
  have k6 : env.kindOf "bytearray" = some .globalImplicit := by rw [he]; rfl
  have k7 : env.kindOf "len" = some .globalImplicit := by rw [he]; rfl
  have k8 : env.kindOf "range" = some .globalImplicit := by rw [he]; rfl
  have k9 : env.kindOf "bytes" = some .globalImplicit := by rw [he]; rfl
  have hc : env.cells = [] := by rw [he]; rfl
  simp only [bindL, bindC, k1, k2, if_true] at x
  have ok1 : OkA 0 (A.deeper env) := ok.deeper env
  clear he
  -- swapped_data = bytearray(len(data))
  refine nExecs_cons (nAssign_Name (nCall1 rfl (nm_bytearray (B.keeps (icKeep x)) e k6 ?_)) (by rfl))
  refine wpN_of (aCall1 rfl (nm_len (B.keeps (icKeep x)) e k7 (NameLC x hk k1 rfl ?_ (by decide))))
  refine ⟨kp_builtin, len_bytes (by omega) ?_⟩
  refine ⟨kp_type, ba_make h1 h0 fun h' ho hk' => ?_⟩
  refine stL ((x.tok (s₁.toks + 1 + 1)).kept hk') hk k3 fun s₂ x₂ hs₂ => ?_
  have ha : s₁.heap.objs.size ≠ env.locals := Nat.ne_of_gt (icLt x)
  have ho₂ : s₂.heap.get? s₁.heap.objs.size = some (baObj (Array.replicate b.size 0)) := hs₂ _ _ ha ho
  have hsz : s.heap.objs.size ≤ s₁.heap.objs.size := icSize x
  generalize s₁.heap.objs.size = a at ha ho₂ hsz x₂
  have hh : (A.deeper env).handled = none := ok1.hh
  clear ho hk' hs₂ x
  -- for i in range(0, len(data), width)
  have B₂ := B.keeps (icKeep x₂)
  refine nExecs_cons (wpN_of (wpAny_For (aCall3 rfl (nm_range B₂ e k8 ?_)) (by intro _; rfl)))
  refine wpAny_Constant_int (aCall1 rfl (nm_len B₂ e k7 (NameLC (x₂.tok _) hk k1 rfl ⟨kp_builtin, len_bytes (b := b) (by omega) ?_⟩ (by decide))))
  refine NameLC (x₂.tok (s₂.toks + 1 + 1 + 1)) hk k2 rfl ?_ (by decide)
  refine ⟨kp_type, call_range_3 (by omega) ?_⟩
  refine wpAny_pyIter_range (IsRange.new _ _ _ _ _ _ _) (smallN _ h0 h1) ?_
  rw [rangeOne _ h0]
  have hI : s₂.heap.objs.size < (s₂.heap.push { cls := .type "range", data := .fields #[.int 0 s₂.toks, .int b.size (s₂.toks + 1 + 1), .int b.size u] }).objs.size := by rw [Heap.size_push]; omega
  have halt : a < s₂.heap.objs.size := Heap.lt_size ho₂
  have hLlt := icLt x₂
  generalize hH : s₂.heap.push { cls := .type "range", data := .fields #[.int 0 s₂.toks, .int b.size (s₂.toks + 1 + 1), .int b.size u] } = H at hI
  have hkH : Hk s₂.heap H := fun c o q => by rw [← hH]; exact Heap.get?_push_of_some _ q
  have hnI : s.heap.get? H.objs.size = none := fresh_none (by have := icSize x₂; omega)
  refine forWalk (Walks.range hh H.objs.size 0 b.size 1) (fun i s' => SwSt s env a b t u s'.heap [] none (if i = 0 then 0 else b.size) s') ?_ ?_ ?_ ?_ ?_
  · intro i s' h' tk J hk
    have := J.walked hc (I := H.objs.size) (Nat.ne_of_lt (by omega)) (Nat.ne_of_lt (by omega)) hnI (by simp) (tk := tk) hk
    exact ⟨this.x, this.o, fun c hcm => nomatch hcm⟩
  · rintro i v s' hi ⟨tv, rfl⟩ hst ⟨⟨m, x', m1, m2, m3, _⟩, ⟨arr, ho', ha1, ha2⟩, _⟩
    obtain rfl : i = 0 := by omega
    refine stL x' hk k4 fun s₃ x₃ hs₃ => ?_
    refine wpAny_execs_cons (wpAny_For (aCall1 rfl (nm_range (B.keeps (icKeep x₃)) e k8 (NameLC x₃ hk k2 (by rw [if_neg (by decide)]; exact m2) ⟨kp_type, call_range_1 ?_⟩ (by decide)))) (by intro _; rfl))
    refine wpAny_pyIter_range (IsRange.new _ _ _ _ _ _ _) (small_one (by omega) (by omega) (by omega) (by omega)) ?_
    rw [rangeSize_one, if_pos (show (0 : Int) < (b.size : Int) by omega), Int.sub_zero]
    have hLlt3 := icLt x₃
    have hHne : H.objs.size ≠ env.locals := Nat.ne_of_gt (by omega)
    have hst3 : @LT.lt Nat _ H.objs.size s₃.heap.objs.size := Heap.lt_size (hs₃ _ _ hHne hst)
    have halt3 : @LT.lt Nat _ a s₃.heap.objs.size := Heap.lt_size (hs₃ a _ ha ho')
    generalize hH3 : s₃.heap.push { cls := .type "range", data := .fields #[.int 0 s₃.toks, .int b.size u, .int 1 (s₃.toks + 1)] } = H3
    have hkH3 : Hk s₃.heap H3 := fun c o q => by rw [← hH3]; exact Heap.get?_push_of_some _ q
    have hsz3 : s₃.heap.objs.size < H3.objs.size := by rw [← hH3, Heap.size_push]; omega
    have hnI3 : s.heap.get? H3.objs.size = none := fresh_none (by have := icSize x₃; omega)
    refine forWalk (Walks.range hh H3.objs.size 0 1 b.size) (fun j s'' => SwSt s env a b t u s'.heap [H.objs.size] (some (.int 0 tv)) j s'') ?_ ?_ ?_ ?_ ?_
    · intro j s'' h' tk J hk
      exact J.walked hc (I := H3.objs.size) (Nat.ne_of_lt (by omega)) (Nat.ne_of_lt (by omega)) hnI3 (fun hm => absurd (List.mem_singleton.mp hm) (Nat.ne_of_gt (by omega))) (tk := tk) hk
    · rintro j v s'' hj ⟨tj, rfl⟩ hst4 ⟨⟨m', x'', n1, n2, n3, n4⟩, ⟨arr', ho'', hb1, hb2⟩, hkp⟩
      refine stL x'' hk k5 fun s₄ x₄ hs₄ => ?_
      have m'1 : (if (Str.ofString "data") = (Str.ofString "j") then some (Value.int (0 + (j : Int) * 1) tj) else m' (Str.ofString "data")) = some (.bytes b t) := by rw [if_neg (by decide)]; exact n1
      have m'2 : (if (Str.ofString "width") = (Str.ofString "j") then some (Value.int (0 + (j : Int) * 1) tj) else m' (Str.ofString "width")) = some (.int b.size u) := by rw [if_neg (by decide)]; exact n2
      have m'3 : (if (Str.ofString "swapped_data") = (Str.ofString "j") then some (Value.int (0 + (j : Int) * 1) tj) else m' (Str.ofString "swapped_data")) = some (.ref a) := by rw [if_neg (by decide)]; exact n3
      have m'4 : (if (Str.ofString "i") = (Str.ofString "j") then some (Value.int (0 + (j : Int) * 1) tj) else m' (Str.ofString "i")) = some (.int 0 tv) := by rw [if_neg (by decide)]; exact n4 _ rfl
      have m'5 : (if (Str.ofString "j") = (Str.ofString "j") then some (Value.int (0 + (j : Int) * 1) tj) else m' (Str.ofString "j")) = some (.int (0 + (j : Int) * 1) tj) := if_pos rfl
      refine wpAny_execs_cons (wpAny_Assign_Subscript (Subscript_ (NameLC x₄ hk k1 m'1 ?_ (by decide))) (by rfl))
      refine wpAny_BinOp (NameLC x₄ hk k4 m'4 (NameLC x₄ hk k5 m'5 (PyProof.Rows.add_int ?_) (by decide)) (by decide))
      refine bytes_item (j := j) (by omega) hj (by omega) ?_ (by intro _; with_unfolding_all rfl) (by intro _ _; with_unfolding_all rfl)
      refine NameLC (x₄.tok _) hk k3 m'3 ?_ (by decide)
      refine wpAny_BinOp (wpAny_BinOp (wpAny_BinOp (NameLC (x₄.tok _) hk k4 m'4 (NameLC (x₄.tok _) hk k2 m'2 (PyProof.Rows.add_int ?_) (by decide)) (by decide))))
      refine wpAny_Constant_int (PyProof.Rows.sub_int ?_)
      refine NameLC (x₄.tok _) hk k5 m'5 (PyProof.Rows.sub_int ?_) (by decide)
      have hidx : (0 + (b.size : Int) - 1 - (0 + (j : Int) * 1)) = ((b.size - 1 - j : Nat) : Int) := by omega
      rw [hidx]
      have haL : a ≠ env.locals := ha
      refine ba_set (b := arr') (hs₄ a _ haL ho'') (by omega) (by omega) fun h' hg hsb => ?_
      have x₅ : InCallC s env.locals (fun y => if y = Str.ofString "j" then some (Value.int (0 + (j : Int) * 1) tj) else m' y) env.cells (fun _ => none) { s₄ with heap := h', toks := s₄.toks + 1 + 1 + 1 + 1 + 1 + 1 } := 
        icWalked (wr := [a]) (x₄.tok _) (fun c o hcm q => hsb.extBut c o (by simpa using hcm) q) (by simpa using Ne.symm haL) (by rw [hc]; intro n c h; cases h) (by simpa using fresh_none hsz)
      refine wpAny_execs_nil ⟨rfl, ⟨⟨_, x₅, m'1, m'2, m'3, fun v hv => by cases hv; exact m'4⟩, ⟨_, hg, by simp [hb1], fun k hk' => ?_⟩, fun c hcm o q => ?_⟩, fun c hcm o q => ?_⟩
      · by_cases hkj : k = j
        · subst hkj
          rw [Array.getElem?_setIfInBounds_self_of_lt (by omega), Array.getElem?_eq_getElem hj]
        · rw [Array.getElem?_setIfInBounds_ne (by omega)]
          exact hb2 k (by omega)
      · have hcH : c = H.objs.size := by simpa using hcm
        subst hcH
        exact hsb.extBut _ _ (Nat.ne_of_gt (by omega)) (hs₄ _ _ hHne (hkp _ (by simp) o q))
      · have hcH : c = H3.objs.size := by simpa using hcm
        subst hcH
        exact hsb.extBut _ _ (Nat.ne_of_gt (by omega)) (hs₄ _ _ (Nat.ne_of_gt (by omega)) q)
    · show IsRangeIter _ _ _ _ _
      simpa using Heap.get?_push_size _ rfl
    · have hup : Hk s₃.heap (H3.push { cls := .type "range_iterator", data := .fields #[rawInt 0, rawInt (b.size : Int), rawInt 1] }) := fun c o q => Heap.get?_push_of_some _ (hkH3 c o q)
      refine ⟨⟨_, x₃.kept hup, ?_, ?_, ?_, fun v hv => by cases hv; rw [if_pos rfl]; simp⟩, ⟨arr, hup _ _ (hs₃ a _ ha ho'), ha1, fun k hk' => by omega⟩, fun c hcm o q => ?_⟩
      · rw [if_neg (by decide)]; exact m1
      · rw [if_neg (by decide)]; exact m2
      · rw [if_neg (by decide)]; exact m3
      · have hcH : c = H.objs.size := by simpa using hcm
        subst hcH
        exact hup _ _ (hs₃ _ _ hHne q)
    · rintro s'' ⟨X, O, hkp⟩
      refine wpAny_execs_nil ⟨rfl, ⟨?_, O, fun c hcm => nomatch hcm⟩, hkp⟩
      obtain ⟨m', x', a1, a2, a3, _⟩ := X
      exact ⟨m', x', a1, a2, a3, fun v hv => nomatch hv⟩
  · show IsRangeIter _ _ _ _ _
    simpa using Heap.get?_push_size _ rfl
  · have hup : Hk s₂.heap (H.push { cls := .type "range_iterator", data := .fields #[rawInt 0, rawInt ((1 : Nat) : Int), rawInt (b.size : Int)] }) := fun c o q => Heap.get?_push_of_some _ (hkH c o q)
    exact ⟨⟨_, x₂.kept hup, rfl, rfl, rfl, fun v hv => nomatch hv⟩, ⟨_, hup _ _ ho₂, by simp, fun k hk' => by simp at hk'⟩, fun c hcm => nomatch hcm⟩
  · rintro s' ⟨⟨m, x', m1, m2, m3, _⟩, ⟨arr, ho', ha1, ha2⟩, _⟩
    have harr : arr = b.reverse := rev_arr ha1 ha2
    subst harr
    refine wpN_of (wpAny_execs_cons (wpAny_Return_some (aCall1 rfl (nm_bytes (B.keeps (icKeep x')) e k9 (NameLC x' hk k3 m3 ⟨kp_type, ba_bytes ho' (by omega) fun t' k => ?_⟩ (by decide))))))
    exact h t' _ (kTrans (icKeeps x') (kTok k))
end Mine

end

section
set_option maxRecDepth 100000
namespace Mine
open PySem PySem.W PySem.Calls PyProof.Rows
open Sem (wp)

section
variable {prog : Program} {w : World} {A : Around} {E : Value → Shared → Prop} {s : Shared} {env : Env}
/-- what is iterated: n items, the i-th as P says -/
def Src (prog : Program) (w : World) (A : Around) (xv : Value) (n : Nat) (P : Nat → Value → Prop) (s : Shared) : Prop :=
  ∀ (Q : Value → Shared → Prop) (E : Value → Shared → Prop), (∀ I fp wr St h₂, Walks prog w A I fp wr n P St → St 0 h₂ → (∀ b ∈ fp, b < h₂.objs.size) → (∀ b ∈ wr, s.heap.get? b = none) → Hk s.heap h₂ → Q (.ref I) { s with heap := h₂ }) →
    wpAny (model prog w) A (pyIter xv) Q E s
theorem one_new {h : Heap} : ∀ b ∈ [h.objs.size], h.get? b = none := fun b hb => by rw [List.mem_singleton.mp hb]; exact fresh_none (Nat.le_refl _)
theorem one_lt {h : Heap} {o : Obj} : ∀ b ∈ [h.objs.size], b < (h.push o).objs.size := fun b hb => by rw [List.mem_singleton.mp hb, Heap.size_push]; exact Nat.lt_succ_self _
theorem push_hk {h : Heap} (o : Obj) : Hk h (h.push o) := fun _ _ e => Heap.get?_push_of_some _ e
theorem src_list (hh : A.handled = none) {ax : Addr} {items : Array Value} (hl : s.heap.IsList ax items) : Src prog w A (.ref ax) items.size (fun i v => items[i]? = some v) s := by
  intro Q E h
  have hax : ax < s.heap.objs.size := by obtain ⟨o, ho, _⟩ := hl; exact Heap.lt_size ho
  refine wpAny_pyIter_list hl (h _ _ _ _ _ (Walks.list hh s.heap.objs.size ax (Nat.ne_of_lt hax) items) ⟨⟨_, Heap.get?_push_size _ rfl, rfl, rfl⟩, hl.push _⟩ (fun b hb => ?_) one_new (push_hk _))
  rw [Heap.size_push]
  rcases List.mem_cons.mp hb with rfl | hb
  · exact Nat.lt_succ_self _
  · rw [List.mem_singleton.mp hb]; exact Nat.lt_succ_of_lt hax
theorem src_str (hh : A.handled = none) {x : Str} {t : Tok} : Src prog w A (.str x t) x.cps.size (SignAt x) s := by
  intro Q E h
  exact wpAny_pyIter_str fun o St W st => h _ _ _ _ _ (W A hh) st one_lt one_new (push_hk _)
theorem src_bytes (hh : A.handled = none) {b : Array UInt8} {t : Tok} : Src prog w A (.bytes b t) b.size (fun i v => ∃ c u, b[i]? = some c ∧ v = .int (c.toNat : Int) u) s := by
  intro Q E h
  exact KBw.pyIter_bytes (h _ _ _ _ _ (KBw.walks hh s.heap.objs.size b t) ⟨_, Heap.get?_push_size _ rfl, rfl, rfl⟩ one_lt one_new (push_hk _))
theorem src_range (hh : A.handled = none) {r : Addr} {a b c : Int} {t u v : Tok} {n : Nat} (hr : IsRange s.heap r a b c t u v) (hs : Builtin.Range.small a b c = true) (hn : Builtin.Range.rangeSize a b c = ((n : Nat) : Int)) :
    Src prog w A (.ref r) n (fun i v => ∃ t, v = .int (a + i * c) t) s := by
  intro Q E h
  refine wpAny_pyIter_range hr hs (h _ _ _ _ _ (Walks.range hh s.heap.objs.size a c n) ?_ one_lt one_new (push_hk _))
  show IsRangeIter _ _ _ _ _
  rw [hn]
  simpa using Heap.get?_push_size _ rfl

abbrev testsOf (ifs : List Expr) (env : Env) : Sem Bool := forIn ifs true fun c r => if r = true then do let ok ← isTrue c env (eval c env); pure (ForInStep.yield ok) else pure (ForInStep.yield r)
/-- what a comprehension asks of its parts, behind its source -/
structure CompOk (prog : Program) (w : World) (A : Around) (env : Env) (scope : Scope) (cl : List (Str × Addr)) (x : Str) (ifs : List Expr) (elt : Expr) (P : Nat → Value → Prop) (p : Value → Bool) (F : Value → Value → Prop) (s₁ : Shared) : Prop where
  tests : ∀ C i v s₃ m₃ E', P i v → s₃.heap.Ns C m₃ → m₃ x = some v → Hk s₁.heap s₃.heap →
    wpAny (model prog w) A (testsOf ifs (compEnvC scope cl C env)) (fun ok s₄ => ok = p v ∧ Keeps s₃ s₄) E' s₃
  elt : ∀ C i v s₃ m₃ E', P i v → p v = true → s₃.heap.Ns C m₃ → m₃ x = some v → Hk s₁.heap s₃.heap →
    wpAny (model prog w) A (eval elt (compEnvC scope cl C env)) (fun y s₄ => F v y ∧ Keeps s₃ s₄) E' s₃
theorem CompOk.quiet {scope : Scope} {cl : List (Str × Addr)} {x : Str} {ifs : List Expr} {elt : Expr} {P : Nat → Value → Prop} {p : Value → Bool} {F : Value → Value → Prop} {s₁ s₂ : Shared} {wr : List Addr}
    (c : CompOk prog w A env scope cl x ifs elt P p F s₁) (hk : Hk s₁.heap s₂.heap) (hw : ∀ b ∈ wr, s₁.heap.get? b = none) : QuietOnC prog w A env scope cl x ifs elt wr P p F s₂ := by
  have up : ∀ s₃ : Shared, (∀ b o, b ∉ wr → s₂.heap.get? b = some o → s₃.heap.get? b = some o) → Hk s₁.heap s₃.heap := fun s₃ h b o e => h b o (fun hb => by rw [hw b hb] at e; cases e) (hk b o e)
  exact ⟨fun C i v s₃ m₃ E' _ hP hn hm h _ => c.tests C i v s₃ m₃ E' hP hn hm (up s₃ h), fun C i v s₃ m₃ E' _ hP hp hn hm h _ => c.elt C i v s₃ m₃ E' hP hp hn hm (up s₃ h)⟩
theorem compE {elt iter : Expr} {x : Str} {px : Pos} {ifs : List Expr} {scope : Scope} {cl : List (Str × Addr)} {pos : Pos} {Q : Value → Shared → Prop} (p : Value → Bool) (F : Value → Value → Prop)
    (hclos : closureFor scope env = pure cl) (hcell : ∀ y ∈ scope.names, y.2 ≠ .cell) (hkind : scope.kind = .function)
    (hnames : ∀ y ∈ scope.names, y.2 = .local → scope.names.lookup y.1 = some .local) (hx : scope.names.lookup x = some .local) (hs : ∀ x, foldedSetIterable iter env x = pure x)
    (h : wpAny (model prog w) A (eval iter env) (fun xv s₁ => ∃ n P, n ≤ sizeLine ∧ Src prog w A xv n P s₁ ∧ CompOk prog w A env scope cl x ifs elt P p F s₁ ∧
      ∀ D s' ys (vs : List Value), Keeps s₁ s' → s₁.heap.get? D = none → s'.heap.IsList D ys → vs.length = n → (∀ j v, vs[j]? = some v → P j v) → Paired F (vs.filter p) ys.toList → Q (.ref D) s') E s) :
    wpAny (model prog w) A (eval (.ListComp elt [⟨.Name x px, iter, ifs, 0⟩] scope pos) env) Q E s := by
  refine wpAny_ListComp_free p F hclos hcell hkind hnames hx (wpAny_mono h (fun xv s₁ h₁ => ?_) fun _ _ q => q) hs
  obtain ⟨n, P, hn, hsrc, hc, hQ⟩ := h₁
  refine hsrc _ _ fun I fp wr St h₂ W st hfp hwr hk => ⟨I, fp, wr, n, P, St, rfl, W, hn, st, hfp, hc.quiet hk hwr, fun D h' tk ys vs hD hl _ hlen hP hF hk' => ?_⟩
  have hup : Hk s₁.heap h' := fun b o e => hk' b o (fun hb => by rw [hwr b hb] at e; cases e) (hk b o e)
  refine hQ D _ ys vs ⟨h', tk, rfl, hup⟩ ?_ hl hlen hP hF
  cases e : s₁.heap.get? D with
  | none => rfl
  | some o => have hD' : h₂.get? D = none := hD; rw [hk D o e] at hD'; cases hD'
theorem compAsg {elt iter : Expr} {x y : Str} {px py : Pos} {ifs : List Expr} {scope : Scope} {cl : List (Str × Addr)} {pos spos : Pos} {Q : Flow → Shared → Prop} {s₀ : Shared} {cm : Str → Option Value}
    (p : Value → Bool) (F : Value → Value → Prop)
    (hsw : swapsWith (.ListComp elt [⟨.Name x px, iter, ifs, 0⟩] scope pos) (some (.Name y py)) spos.line env = pure true)
    (hclos : closureFor scope env = pure cl) (hcell : ∀ z ∈ scope.names, z.2 ≠ .cell) (hkind : scope.kind = .function)
    (hnames : ∀ z ∈ scope.names, z.2 = .local → scope.names.lookup z.1 = some .local) (hx : scope.names.lookup x = some .local)
    (hy : env.kindOf y = some .local) (hp : (env.scope.kind == .class || (env.scope.kind == .module && env.locals != env.globals)) = false) (hs : ∀ x, foldedSetIterable iter env x = pure x)
    (h : wpAny (model prog w) A (eval iter env) (fun xv s₁ => ∃ n P m, n ≤ sizeLine ∧ Src prog w A xv n P s₁ ∧ InCallC s₀ env.locals m env.cells cm s₁ ∧ CompOk prog w A env scope cl x ifs elt P p F s₁ ∧
      ∀ D s' ys (vs : List Value), InCallC s₀ env.locals (fun z => if z = y then some (.ref D) else m z) env.cells cm s' → (∀ b o, b ≠ env.locals → s₁.heap.get? b = some o → s'.heap.get? b = some o) → s₁.heap.get? D = none → D ≠ env.locals → s'.heap.IsList D ys → vs.length = n → (∀ j v, vs[j]? = some v → P j v) → Paired F (vs.filter p) ys.toList → Q .next s') E s) :
    wpAny (model prog w) A (exec (.Assign [.Name y py] (.ListComp elt [⟨.Name x px, iter, ifs, 0⟩] scope pos) spos) env) Q E s := by
  refine wpAny_Assign_ListComp_free p F hsw hclos hcell hkind hnames hx hy hp (wpAny_mono h (fun xv s₁ h₁ => ?_) fun _ _ q => q) hs
  obtain ⟨n, P, m, hn, hsrc, X, hc, hQ⟩ := h₁
  refine hsrc _ _ fun I fp wr St h₂ W st hfp hwr hk => ?_
  have hLw : env.locals ∉ wr := fun hb => by
    obtain ⟨o, _, _, ho, _⟩ := X.toInCall.ns
    rw [hwr _ hb] at ho; cases ho
  refine ⟨I, fp, wr, n, P, St, m, rfl, W, hn, st, hfp, hLw, X.toInCall.ns.keeps hk, hc.quiet hk hwr, fun D h' tk ys vs hD hl _ hlen hP hF hns hk' => ?_⟩
  have up : ∀ b o, b ≠ env.locals → s₁.heap.get? b = some o → h'.get? b = some o := fun b o hb e => hk' b o hb (fun hbw => by rw [hwr b hbw] at e; cases e) (hk b o e)
  have hD1 : s₁.heap.get? D = none := by
    cases e : s₁.heap.get? D with
    | none => rfl
    | some o => have hD' : h₂.get? D = none := hD; rw [hk D o e] at hD'; cases hD'
  refine hQ D _ ys vs ⟨⟨?_, hns, fun b o e => ?_, X.toInCall.fresh⟩, fun k c hc' => ?_, X.apart, X.above⟩ up hD1 (fun e => ?_) hl hlen hP hF
  · obtain ⟨h₁, tk₁, rfl⟩ := X.toInCall.same; exact ⟨h', tk, rfl⟩
  · exact up b o (Nat.ne_of_lt (Nat.lt_of_lt_of_le (Heap.lt_size e) X.toInCall.fresh)) (X.toInCall.keep b o e)
  · obtain ⟨o, ho, hd⟩ := X.cell k c hc'
    exact ⟨o, up c o (Nat.ne_of_gt (X.above k c (mem_of_lookup hc'))) ho, hd⟩
  · obtain ⟨o, _, _, ho, _⟩ := X.toInCall.ns
    rw [e, ho] at hD1; cases hD1
theorem tests_nil {Q : Bool → Shared → Prop} (h : Q true s) : wpAny (model prog w) A (testsOf [] env) Q E s := wpAny_pure h
end

/-! texts as lists of numbers -/
abbrev S (l : List Nat) : Str := ⟨l.toArray⟩
def StrV (x : List Nat) (v : Value) : Prop := ∃ t, v = .str (S x) t
theorem paired_strs {α : Type} {F : α → Value → Prop} {f : α → List Nat} : ∀ {vs : List α} {ys : List Value}, Paired F vs ys → (∀ v ∈ vs, ∀ y, F v y → StrV (f v) y) → StrsAre ys (vs.map fun v => S (f v))
  | _, _, .nil, _ => .nil
  | _, _, .cons h r, k => by
    obtain ⟨t, rfl⟩ := k _ (.head _) _ h
    exact .cons _ _ (paired_strs r fun v hv => k v (.tail _ hv))
end Mine

end

section
set_option maxRecDepth 100000
namespace Mine
open PySem PySem.W PySem.Calls PyProof.Rows
open Sem (wp)

theorem filter_tt {α : Type} : ∀ l : List α, l.filter (fun _ => true) = l := fun l => by simp
/-- a name of the block -/
theorem nmK {M : Model} {A : Around} {E : Value → Shared → Prop} {s : Shared} {env : Env} {n : Str} {pos : Pos} {v : Value} {m : Str → Option Value} {Q : Value → Shared → Prop} (hk : env.scope.kind = .function) (hl : env.kindOf n = some .local)
    (hn : s.heap.Ns env.locals m) (hv : m n = some v) (hd : (n == ("__debug__" : Str)) = false) (h : Q v s) : wpAny M A (eval (.Name n pos) env) Q E s := wpAny_Name (wpAny_loadName_local hk hl hn hv h) hd
theorem EO.comp {env : Env} (e : EO env) {scope : Scope} (hk : scope.kind = .function) (cl : List (Str × Addr)) (C : Addr) : EO (compEnvC scope cl C env) := ⟨hk, e.hg, e.hb⟩
/-- m(self, ..) of a text, one argument -/
theorem strMeth1 {prog : Program} {w : World} {A : Around} {E : Value → Shared → Prop} {s : Shared} {env : Env} {o e : Expr} {name : Str} {apos pos : Pos} {id : String} {Q : Value → Shared → Prop}
    (hbase : attributeBase o name env (eval o env) = eval o env)
    (hfew : ((backTo pos (starEach [e] env)).all (fun x => !x.1) && (backToKw pos (keywordEach [] env)).all (fun x => x.1.isSome)
      && decide ([e].length + ([] : List Keyword).length + (if ([] : List Keyword).isEmpty then 0 else 1) < 30)) = true)
    (hline : (apos.endLine == pos.line) = true) (slot : Slot "str" name id) (hty : typeOf (.builtin id) = pure (.type "method_descriptor")) (hs : backTo pos (starEach [e] env) = [(false, eval e env)])
    (h : wpAny (model prog w) A (eval o env) (fun ov s₁ => ∃ x t, ov = .str x t ∧ wpAny (model prog w) A (eval e env) (fun v s₂ => wpAny (model prog w) A (call (.builtin id) [.str x t, v]) Q E s₂) E s₁) E s) :
    wpAny (model prog w) A (eval (.Call (.Attribute o name apos) [e] [] pos) env) Q E s := by
  refine wpAny_Call_method hbase hfew hline F.plainAttrs_str slot hty (wpAny_mono h (fun ov s₁ h₁ => ?_) fun _ _ q => q)
  obtain ⟨x, t, rfl, h₂⟩ := h₁
  refine ⟨typeIs_str _ _ _, (fun a e => nomatch e), ?_⟩
  rw [hs]
  exact callWith_builtin rfl (evalArgs_plain (spliced_cons (wpAny_mono h₂ (fun v s₂ h₃ => spliced_nil h₃) fun _ _ q => q)))
theorem icUp {s₀ s s' : Shared} {L : Addr} {m cm : Str → Option Value} {cs : List (Str × Addr)} (x : InCallC s₀ L m cs cm s) (k : Keeps s s') : InCallC s₀ L m cs cm s' := by
  obtain ⟨h', tk, rfl, hk⟩ := k
  exact x.kept hk
theorem ints_of_signs : ∀ {wd : List Nat} {vs ys : List Value}, vs.length = wd.length → (∀ (j : Nat) v, vs[j]? = some v → SignAt (S wd) j v) →
    Paired (fun v y => ∀ c u, v = .str ⟨#[c]⟩ u → ∃ t, y = .int (c : Int) t) vs ys → IntsAre ys (wd.map Int.ofNat)
  | [], vs, ys, hl, _, hp => by
    have : vs = [] := List.length_eq_zero_iff.mp hl
    subst this
    cases hp
    exact .nil
  | c :: wd, v :: vs, ys, hl, hP, hp => by
    cases hp with
    | cons h r =>
      obtain ⟨c', u, hc, rfl⟩ := hP 0 v rfl
      obtain rfl : c = c' := by simpa using hc
      obtain ⟨t, rfl⟩ := h c u rfl
      refine .cons _ _ (ints_of_signs (by simpa using hl) (fun j v' hv => ?_) r)
      obtain ⟨c'', u', h1, h2⟩ := hP (j + 1) v' (by simpa using hv)
      exact ⟨c'', u', by simpa using h1, h2⟩
theorem signs_of_ints : ∀ {b : List UInt8} {vs ys : List Value}, vs.length = b.length → (∀ (j : Nat) v, vs[j]? = some v → ∃ c u, b[j]? = some c ∧ v = Value.int (c.toNat : Int) u) →
    Paired (fun v y => ∀ (c : UInt8) u, v = .int (c.toNat : Int) u → StrV [c.toNat] y) vs ys → StrsAre ys (b.map fun c => S [c.toNat])
  | [], vs, ys, hl, _, hp => by
    have : vs = [] := List.length_eq_zero_iff.mp hl
    subst this
    cases hp
    exact .nil
  | c :: b, v :: vs, ys, hl, hP, hp => by
    cases hp with
    | cons h r =>
      obtain ⟨c', u, hc, rfl⟩ := hP 0 v rfl
      obtain rfl : c = c' := by simpa using hc
      obtain ⟨t, rfl⟩ := h c u rfl
      refine .cons _ _ (signs_of_ints (by simpa using hl) (fun j v' hv => ?_) r)
      obtain ⟨c'', u', h1, h2⟩ := hP (j + 1) v' (by simpa using hv)
      exact ⟨c'', u', by simpa using h1, h2⟩
theorem sum_ones (l : List Nat) : (l.map fun _ => 1).sum = l.length := by
  induction l with
  | nil => rfl
  | cons a l ih => rw [List.map_cons, List.sum_cons, ih, List.length_cons]; omega
theorem join_map (l : List (List Nat)) : Txt.join (Str.ofString "") (l.map S) = S l.flatten := by
  have e : (Str.ofString "").cps = #[] := by decide
  have go : ∀ (r : List (List Nat)) (acc : Array Nat), (r.map S).foldl (fun acc p => acc ++ (Str.ofString "").cps ++ p.cps) acc = acc ++ r.flatten.toArray := by
    intro r
    induction r with
    | nil => intro acc; simp
    | cons a r ih => intro acc; rw [List.map_cons, List.foldl_cons, ih, e]; simp
  unfold Txt.join Builtin.Str.glued
  cases l with
  | nil => rfl
  | cons a r =>
    rw [List.map_cons, List.drop_one, List.tail_cons, List.headD_cons, go]
    simp
theorem flatten_singletons (l : List Nat) : (l.map fun c => [c]).flatten = l := by induction l <;> simp_all
theorem turned_spec {prog : Program} {w : World} {A : Around} {s : Shared} {Q : Value → Shared → Prop} {E : Value → Shared → Prop} {wd : List Nat} {t : Tok} (B : Bs w s.heap) (ok : OkA 2 A) (h0 : 0 < wd.length) (h1 : wd.length ≤ 1000) (hc : ∀ c ∈ wd, c < 256)
    (h : ∀ t' s', Keeps s s' → Q (.str (S wd.reverse) t') s') :
    wpN (model prog w) A (call (.ref 87) [.str (S wd) t]) Q E s := by
  refine enterN (f := 87) (binds := [("word", .str (S wd) t)]) B ok.room rfl ?_ rfl rfl rfl rfl rfl rfl rfl ?_
  · kernel_rfl
  intro env s₁ he x
  have hk : env.scope.kind = .function := by rw [he]; rfl
  have e : EO env := ⟨hk, by rw [he]; rfl, by rw [he]; rfl⟩
  have k1 : env.kindOf "word" = some .local := by rw [he]; rfl
  have k2 : env.kindOf "octets" = some .local := by rw [he]; rfl
  have k3 : env.kindOf "_byteswap" = some .globalImplicit := by rw [he]; rfl
  have k4 : env.kindOf "bytes" = some .globalImplicit := by rw [he]; rfl
  have k5 : env.kindOf "len" = some .globalImplicit := by rw [he]; rfl
  have k6 : env.kindOf "isinstance" = some .globalImplicit := by rw [he]; rfl
  simp only [bindL, bindC, k1, if_true] at x
  have ok1 : OkA 1 (A.deeper env) := ok.deeper env
  have hh : (A.deeper env).handled = none := ok1.hh
  have B₁ := B.keeps (icKeep x)
  refine nExecs_cons (nAssign_Name (nCall2 rfl (nm_byteswap B₁ e k3 ?_)) (by rfl))
  -- bytes([ord(sign) for sign in word])
  refine wpN_of (aCall1 rfl (nm_bytes B₁ e k4 ?_))
  refine compE (cl := []) (fun _ => true) (fun v y => ∀ c u, v = .str ⟨#[c]⟩ u → ∃ t, y = .int (c : Int) t) (by rw [he]; rfl) (by decide) rfl (by decide) rfl (by intro _; rfl) ?_
  refine NameLC x hk k1 rfl ⟨_, _, ?_, src_str hh, ?_, ?_⟩ (by decide)
  · show (S wd).cps.size ≤ sizeLine
    rw [sizeLine_eq]; simp; omega
  · refine ⟨fun C i v s₃ m₃ E' _ _ _ hk' => tests_nil ⟨rfl, kRefl _⟩, fun C i v s₃ m₃ E' hP _ hn hm hk' => ?_⟩
    obtain ⟨c, u, _, rfl⟩ := hP
    refine aCall1 rfl (nm_ord (B₁.keeps hk') (e.comp rfl _ _) rfl (nmK rfl rfl hn hm (by decide) ⟨kp_builtin, P.ord_of_char ⟨?_, kTok _⟩⟩))
    intro c' u' e'
    cases e'
    exact ⟨_, rfl⟩
  · intro D s₂ ys vs hK hD hl hlen hP hF
    rw [filter_tt] at hF
    have hi := ints_of_signs (wd := wd) (by simpa using hlen) hP hF
    refine ⟨kp_type, call_bytes_ints (ns := wd.map Int.ofNat) (vs := ys.toList) (by simpa using hl) hi ?_ ?_ hh fun h' t' k hk' => ?_⟩
    · intro n hn
      obtain ⟨c, hcm, rfl⟩ := List.mem_map.mp hn
      have := hc c hcm
      show 0 ≤ (c : Int) ∧ (c : Int) < 256
      omega
    · rw [hi.length, sizeLine_eq]; simp; omega
    have hK1 : Keeps s₁ { s₂ with heap := h', toks := k } := kTrans hK ⟨h', k, rfl, hk'⟩
    have x₂ := icUp x hK1
    generalize ({ s₂ with heap := h', toks := k } : Shared) = s₃ at x₂ hK1
    have hsz : ((S wd).length : Int) = ((byteArr (wd.map Int.ofNat)).size : Int) := by rw [byteArr_size]; simp [Str.length]
    -- len(word)
    have B₃ : Bs w s₃.heap := B₁.keeps (kHk hK1)
    refine wpN_of (aCall1 rfl (nm_len B₃ e k5 (NameLC x₂ hk k1 rfl ⟨kp_builtin, PyProof.Rows.len_str (by rw [hsz, byteArr_size]; simp; omega) ?_⟩ (by decide))))
    refine ⟨kp28 (w := w) B₃, ?_⟩
    rw [hsz]
    refine bs_spec B₃ ok1 (by rw [byteArr_size]; simpa using h0) (by rw [byteArr_size]; simpa using h1) fun t'' s₄ hK4 => ?_
    have x₄ := icUp x₂ (kTrans (kTok _) hK4)
    refine stL x₄ hk k2 fun s₅ x₅ _ => ?_
    have B₅ := B.keeps (icKeep x₅)
    refine nExecs_cons (nIf (wpN_of (isTrue_not (isTrue_plain ?_ (by rfl)))))
    refine aCall2 rfl (nm_isinstance B₅ e k6 (NameLC x₅ hk k2 rfl (nm_bytes B₅ e k4 ⟨kp_builtin, call_isinstance_yes (typeIs_bytes _ _ _) rfl F.bm_sub ?_⟩) (by decide)))
    refine wpAny_truthy_bool ?_
    refine nExecs_nil (wpN_of (wpAny_execs_cons (wpAny_Return_some ?_)))
    refine strMeth1 (by rw [he]; rfl) (by rfl) (by rfl) F.slot_str_join F.type_str_join rfl ?_
    refine wpAny_Constant_str ⟨_, _, rfl, ?_⟩
    have x₆ := x₅.tok (s₅.toks + 1)
    refine compE (cl := []) (fun _ => true) (fun v y => ∀ (c : UInt8) u, v = .int (c.toNat : Int) u → StrV [c.toNat] y) (by rw [he]; rfl) (by decide) rfl (by decide) rfl (by intro _; rfl) ?_
    refine NameLC x₆ hk k2 rfl ⟨_, _, ?_, src_bytes hh, ?_, ?_⟩ (by decide)
    · rw [Array.size_reverse, byteArr_size, sizeLine_eq]; simp; omega
    · refine ⟨fun C i v s₃ m₃ E' _ _ _ hk' => tests_nil ⟨rfl, kRefl _⟩, fun C i v s₃ m₃ E' hP _ hn hm hk' => ?_⟩
      obtain ⟨c, u, _, rfl⟩ := hP
      have hcl := c.toNat_lt
      refine aCall1 rfl (nm_chr (B₅.keeps hk') (e.comp rfl _ _) rfl (nmK rfl rfl hn hm (by decide) ⟨kp_builtin, chr_of_range (by omega) (by omega) ⟨?_, kTok _⟩⟩))
      intro c' u' e'
      have e1 : (c.toNat : Int) = (c'.toNat : Int) := by injection e'
      have e2 : c.toNat = c'.toNat := by omega
      rw [← e2]
      exact ⟨_, rfl⟩
    · intro D' s₇ ys' vs' hK7 hD' hl' hlen' hP' hF'
      rw [filter_tt] at hF'
      have hi' := signs_of_ints (b := (byteArr (wd.map Int.ofNat)).reverse.toList) (by simpa using hlen') (fun j v hv => by obtain ⟨c, u, q1, q2⟩ := hP' j v hv; exact ⟨c, u, by rw [Array.getElem?_toList]; exact q1, q2⟩) hF'
      have hmap : ((byteArr (wd.map Int.ofNat)).reverse.toList.map fun c => S [c.toNat]) = (wd.reverse.map fun c => [c]).map S := by
        simp only [byteArr, List.map_map, Array.toList_reverse, List.map_reverse]
        congr 1
        apply List.map_congr_left
        intro c hcm
        have := hc c hcm
        simp only [Function.comp, Int.ofNat_eq_natCast, Int.toNat_natCast]
        have hz : (UInt8.ofNat c).toNat = c := by rw [UInt8.toNat_ofNat']; omega
        show S [(UInt8.ofNat c).toNat] = S [c]
        rw [hz]
      rw [hmap] at hi'
      refine join_list hl' hi' ?_ fun t₇ k₇ => ?_
      · have hs : (((wd.reverse.map fun c => [c]).map S).map (·.length)).sum = wd.length := by
          simp only [List.map_map]
          have : (Str.length ∘ S ∘ fun c : Nat => [c]) = fun _ => 1 := by funext c; rfl
          rw [this, sum_ones, List.length_reverse]
        rw [hs]
        have : (Str.ofString "").length = 0 := by decide
        rw [this]; omega
      · rw [join_map, flatten_singletons]
        exact h _ _ (kTrans (kTrans (icKeeps x₆) hK7) (kTok _))
end Mine

end

section
set_option maxRecDepth 100000
namespace Mine
open PySem PySem.W PySem.Calls PyProof.Rows
open Sem (wp)

/-- the dict of an Entry -/
def entD (P : Params) (t1 t2 t3 t4 : Tok) (ua rl : Value) : List DictEntry :=
  [⟨PyData.keyHash P "useragents", .str "useragents" t1, ua⟩, ⟨PyData.keyHash P "rulelines", .str "rulelines" t2, rl⟩, ⟨PyData.keyHash P "delay", .str "delay" t3, .none⟩, ⟨PyData.keyHash P "req_rate", .str "req_rate" t4, .none⟩]
structure Ent (w : World) (h : Heap) (x dx : Addr) (ua rl : Value) : Prop where
  i : h.get? x = some (instObj 66 dx)
  d : ∃ t1 t2 t3 t4, h.get? dx = some (dictOf (entD w.params t1 t2 t3 t4 ua rl) 4)
theorem Ent.keeps {w : World} {h h' : Heap} {x dx : Addr} {ua rl : Value} (e : Ent w h x dx ua rl) (k : Hk h h') : Ent w h' x dx ua rl :=
  ⟨k _ _ e.i, let ⟨a, b, c, d, q⟩ := e.d; ⟨a, b, c, d, k _ _ q⟩⟩
theorem Ent.inst {w : World} {h : Heap} {x dx : Addr} {ua rl : Value} (e : Ent w h x dx ua rl) : ∃ t1 t2 t3 t4, InstAt h x (instObj 66 dx) 66 (some (dictOf (entD w.params t1 t2 t3 t4 ua rl) 4)) :=
  let ⟨a, b, c, d, q⟩ := e.d; ⟨a, b, c, d, ⟨e.i, rfl, rfl, q⟩⟩

section
variable {prog : Program} {w : World} {A : Around} {E : Value → Shared → Prop} {s : Shared} {Q : Value → Shared → Prop} {x dx : Addr} {ua rl : Value} {b : Bool}
theorem ent_pg (w : World) (n : Str) : plainGet (KF w) 66 n = true := by unfold plainGet; kernel_rfl
theorem ent_hd (w : World) : hasDictIn (KF w) 66 = true := by kernel_rfl
theorem ent_ua (B : Bs w s.heap) (e : Ent w s.heap x dx ua rl) (hv : handedIn ua = true) (h : Q ua { s with toks := s.toks + 1 }) : wpAny (model prog w) A (getAttr (.ref x) "useragents" b) Q E s := by
  obtain ⟨t1, t2, t3, t4, I⟩ := e.inst
  exact get_value B.X I (plainGet_of (ent_pg w "useragents")).1 (findObj_own (attr := none) (ent_hd w) (by kernel_rfl) (by kernel_rfl) (by kernel_rfl)) hv h
theorem ent_rl (B : Bs w s.heap) (e : Ent w s.heap x dx ua rl) (hv : handedIn rl = true) (h : Q rl { s with toks := s.toks + 1 }) : wpAny (model prog w) A (getAttr (.ref x) "rulelines" b) Q E s := by
  obtain ⟨t1, t2, t3, t4, I⟩ := e.inst
  exact get_value B.X I (plainGet_of (ent_pg w "rulelines")).1 (findObj_own (attr := none) (ent_hd w) (by kernel_rfl) (by kernel_rfl) (by kernel_rfl)) hv h
theorem ent_dl (B : Bs w s.heap) (e : Ent w s.heap x dx ua rl) (h : Q .none { s with toks := s.toks + 1 }) : wpAny (model prog w) A (getAttr (.ref x) "delay" b) Q E s := by
  obtain ⟨t1, t2, t3, t4, I⟩ := e.inst
  exact get_value B.X I (plainGet_of (ent_pg w "delay")).1 (findObj_own (attr := none) (ent_hd w) (by kernel_rfl) (by kernel_rfl) (by kernel_rfl)) rfl h
theorem ent_rr (B : Bs w s.heap) (e : Ent w s.heap x dx ua rl) (h : Q .none { s with toks := s.toks + 1 }) : wpAny (model prog w) A (getAttr (.ref x) "req_rate" b) Q E s := by
  obtain ⟨t1, t2, t3, t4, I⟩ := e.inst
  exact get_value B.X I (plainGet_of (ent_pg w "req_rate")).1 (findObj_own (attr := none) (ent_hd w) (by kernel_rfl) (by kernel_rfl) (by kernel_rfl)) rfl h
theorem ent_set {h₀ : Heap} {L : Addr} {m : Str → Option Value} {news news' : List (Addr × Obj)} {es es' : List DictEntry} {n n' : Nat} {name : Str} {v : Value} {Q : Unit → Shared → Prop} (B : Bs w h₀) (F : Fr h₀ L s.heap m) (N : News h₀ L s.heap news) (I : InstAt s.heap x (instObj 66 dx) 66 (some (dictOf es n)))
    (ht : takerIn (KF w) 66 name = some none) (hl : (getL name es).isSome = true) (e : (putL name (PyData.keyHash w.params name) (.str name (s.toks + 1)) v es, putN name es n) = (es', n')) (U : Upd dx (dictOf es n) (dictOf es' n') news news') (hz : es'.length ≤ 1000)
    (h : ∀ h', Fr h₀ L h' m → News h₀ L h' news' → Q () { s with heap := h', toks := s.toks + 2 }) : wpAny (model prog w) A (setAttr (.ref x) name v) Q E s :=
  set_dict F B.X N I rfl (by kernel_rfl) (by kernel_rfl) ht (ent_hd w) hl e U hz h
end
end Mine

end

section
set_option maxRecDepth 100000
namespace Mine
open PySem PySem.W PySem.Calls PyProof.Rows
open Sem (wp)
section
variable {prog : Program} {w : World} {A : Around} {s : Shared}
theorem enterC {R : Result → Shared → Prop} {f : Addr} {vals : List Value} {binds : List (Str × Value)} {fd : FuncData} {body : List Stmt} {oc : Value} {od : Option Addr} {osl : Array (Option Value)}
    (B : Bs w s.heap) (hroom : A.depth < recursionLimit) (hl : (KF w).lookup f = some ⟨oc, od, .func fd, osl⟩) (hcd : codeIn (KF w) fd.code fd.qualname = true)
    (hbody : fd.body = .stmts body) (hbind : bindArgs fd ⟨vals, []⟩ = pure binds) (hclo : fd.closure = []) (hkind : kindsOk fd.scope binds = true)
    (hco : fd.scope.isCoroutine = false) (hgen : fd.scope.isGenerator = false) (hk : fd.scope.kind = .function)
    (h : ∀ env s₁, env = callEnvC fd s.heap.objs.size f → InCallC s env.locals (bindL env.kindOf binds fun _ => none) env.cells (bindC env.kindOf binds fun _ => none) s₁ →
      wpAny (model prog w) (A.deeper env) (execs body env) (fun f s' => R (.ok (.ret (match f with | .ret v => v | _ => .none))) s') (fun _ _ => False) s₁) : codeAny (model prog w) A (.call (.ref f) ⟨vals, []⟩) R s := by
  refine codeAny_call_function hroom (B.X _ _ hl) rfl hco hgen hbody (codeRec_of B.X hcd) ?_
  rw [hbind, hclo]
  refine wpAny_pure (wpAny_newFunctionEnv_cells hk (kindsX hkind _) fun env he s' x => ⟨B.lim.keeps x.toInCall.keep, codeAny_func ?_⟩)
  exact wpAny_mono (h env s' he x) (fun _ _ q => q) fun _ _ q => q.elim
end

abbrev lst0 : Obj := listOf #[] 0
theorem entry_K {prog : Program} {w : World} {A : Around} {s : Shared} {h₀ : Heap} {L : Addr} {m : Str → Option Value} {Q : Value → Shared → Prop} {E : Value → Shared → Prop} (B₀ : Bs w h₀) (F : Fr h₀ L s.heap m) (ok : OkA 3 A)
    (h : ∀ x dx la lb t1 t2 t3 t4 h' tk, Fr h₀ L h' m → News h₀ L h' [(x, instObj 66 dx), (dx, dictOf (entD w.params t1 t2 t3 t4 (.ref la) (.ref lb)) 4), (la, lst0), (lb, lst0)] → x ≠ dx → la ≠ dx → lb ≠ dx → Q (.ref x) { s with heap := h', toks := tk }) :
    wpAny (model prog w) A (call (.ref 66) []) Q E s := by
  refine call_cls (fI := 42) F B₀.X (News.nil) (by kernel_rfl) (by kernel_rfl) (by kernel_rfl) fun x dx h' F' N' _ hdx => ?_
  have hB : Bs w h' := B₀.keeps F'.keep
  have hroom : (A.under (.builtin "type.__call__" ⟨[.ref 66], []⟩)).depth < recursionLimit := by
    have := ok.depth
    show A.depth + 1 < 1000
    omega
  refine enterC (f := 42) (binds := [("self", .ref x)]) hB hroom rfl (by kernel_rfl) rfl rfl rfl rfl rfl rfl rfl ?_
  intro env s₁ he X
  have hk : env.scope.kind = .function := by rw [he]; rfl
  have k1 : env.kindOf "self" = some .local := by rw [he]; rfl
  have hL' : env.locals = h'.objs.size := by rw [he]; rfl
  simp only [bindL, bindC, k1, if_true] at X
  have hx' := N' (x, instObj 66 dx) (.head _)
  have hd' := N' (dx, dictOf [] 0) (.tail _ (.head _))
  have hxlt : @LT.lt Nat _ x h'.objs.size := Heap.lt_size hx'.1
  have hdlt : @LT.lt Nat _ dx h'.objs.size := Heap.lt_size hd'.1
  have hLlt : @LT.lt Nat _ L h'.objs.size := F'.ns.lt
  have habove := F'.above
  let g := hideAll h' [x, dx]
  have hgk : Hk g h' := fun b o q => of_hideAll _ q
  have hg0 : Hk h₀ g := fun b o q => hideAll_get _ (F'.keep b o q) (by
    intro hm
    rcases List.mem_cons.mp hm with rfl | hm
    · rw [hx'.2.2] at q; cases q
    · rw [List.mem_singleton.mp hm, hd'.2.2] at q; cases q)
  have Bg : Bs w g := B₀.keeps hg0
  have F₂ : Fr g env.locals s₁.heap (fun y => if y = Str.ofString "self" then some (.ref x) else none) :=
    ⟨X.toInCall.ns, fun b o q => X.toInCall.keep b o (hgk b o q), by rw [hL']; exact Nat.le_of_eq (hideAll_size _ _)⟩
  have N₂ : News g env.locals s₁.heap [(x, instObj 66 dx), (dx, dictOf [] 0)] := fun p hp => by
    rcases List.mem_cons.mp hp with rfl | hp
    · exact ⟨X.toInCall.keep _ _ hx'.1, by rw [hL']; exact Nat.ne_of_lt hxlt, hideAll_none _ (by simp)⟩
    · rw [List.mem_singleton.mp hp]
      exact ⟨X.toInCall.keep _ _ hd'.1, by rw [hL']; exact Nat.ne_of_lt hdlt, hideAll_none _ (by simp)⟩
  have hsame := X.toInCall.same
  have hxd : dx ≠ x := Nat.ne_of_lt hdx
  have hLx : L ≠ x := (Ne.symm hx'.2.1)
  have hLd : L ≠ dx := (Ne.symm hd'.2.1)
  clear X
  -- self.useragents = []
  refine wpAny_execs_cons (plainObj_wpAny_Assign_Attribute (List_ (spliced_nil (newList_K F₂ N₂ fun la g1 F₃ N₃ hla => ?_))) (by rfl))
  refine wpAny_Name (wpAny_loadName_local hk k1 F₃.ns rfl ?_) (by decide)
  have hlad : la ≠ dx := Nat.ne_of_gt (hla _ (.tail _ (.head _)))
  refine ent_set (es' := [⟨PyData.keyHash w.params "useragents", .str "useragents" (s₁.toks + 1), .ref la⟩]) (n' := 1) Bg F₃ N₃ ⟨(N₃ _ (.tail _ (.head _))).1, rfl, rfl, (N₃ _ (.tail _ (.tail _ (.head _)))).1⟩ (by kernel_rfl) rfl rfl (.tail hlad (.tail (Ne.symm hxd) (.head (fun _ q => nomatch q)))) (Nat.le_of_ble_eq_true rfl) fun g2 F₄ N₄ => ?_
  -- self.rulelines = []
  refine wpAny_execs_cons (plainObj_wpAny_Assign_Attribute (List_ (spliced_nil (newList_K F₄ N₄ fun lb g3 F₅ N₅ hlb => ?_))) (by rfl))
  refine wpAny_Name (wpAny_loadName_local hk k1 F₅.ns rfl ?_) (by decide)
  have hlbd : lb ≠ dx := Nat.ne_of_gt (hlb _ (.tail _ (.tail _ (.head _))))
  refine ent_set (es' := [⟨PyData.keyHash w.params "useragents", .str "useragents" (s₁.toks + 1), .ref la⟩, ⟨PyData.keyHash w.params "rulelines", .str "rulelines" (s₁.toks + 2 + 1), .ref lb⟩]) (n' := 2) Bg F₅ N₅ ⟨(N₅ _ (.tail _ (.tail _ (.head _)))).1, rfl, rfl, (N₅ _ (.tail _ (.tail _ (.tail _ (.head _))))).1⟩ (by kernel_rfl) rfl rfl (.tail hlbd (.tail hlad (.tail (Ne.symm hxd) (.head (fun _ q => nomatch q))))) (Nat.le_of_ble_eq_true rfl) fun g4 F₆ N₆ => ?_
  -- self.delay = None
  refine wpAny_execs_cons (plainObj_wpAny_Assign_Attribute (wpAny_Constant_none ?_) (by rfl))
  refine wpAny_Name (wpAny_loadName_local hk k1 F₆.ns rfl ?_) (by decide)
  refine ent_set (es' := [⟨PyData.keyHash w.params "useragents", .str "useragents" (s₁.toks + 1), .ref la⟩, ⟨PyData.keyHash w.params "rulelines", .str "rulelines" (s₁.toks + 2 + 1), .ref lb⟩, ⟨PyData.keyHash w.params "delay", .str "delay" (s₁.toks + 2 + 2 + 1), .none⟩]) (n' := 3) Bg F₆ N₆ ⟨(N₆ _ (.tail _ (.tail _ (.head _)))).1, rfl, rfl, (N₆ _ (.tail _ (.tail _ (.tail _ (.head _))))).1⟩ (by kernel_rfl) rfl rfl (.tail hlbd (.tail hlad (.tail (Ne.symm hxd) (.head (fun _ q => nomatch q))))) (Nat.le_of_ble_eq_true rfl) fun g5 F₇ N₇ => ?_
  -- self.req_rate = None
  refine wpAny_execs_cons (plainObj_wpAny_Assign_Attribute (wpAny_Constant_none ?_) (by rfl))
  refine wpAny_Name (wpAny_loadName_local hk k1 F₇.ns rfl ?_) (by decide)
  refine ent_set (es' := entD w.params (s₁.toks + 1) (s₁.toks + 2 + 1) (s₁.toks + 2 + 2 + 1) (s₁.toks + 2 + 2 + 2 + 1) (.ref la) (.ref lb)) (n' := 4) Bg F₇ N₇ ⟨(N₇ _ (.tail _ (.tail _ (.head _)))).1, rfl, rfl, (N₇ _ (.tail _ (.tail _ (.tail _ (.head _))))).1⟩ (by kernel_rfl) rfl rfl (.tail hlbd (.tail hlad (.tail (Ne.symm hxd) (.head (fun _ q => nomatch q))))) (Nat.le_of_ble_eq_true rfl) fun g6 F₈ N₈ => ?_
  refine wpAny_execs_nil ⟨rfl, ?_⟩
  obtain ⟨hh, tk, rfl⟩ := hsame
  refine h x dx la lb (tk + 1) (tk + 2 + 1) (tk + 2 + 2 + 1) (tk + 2 + 2 + 2 + 1) g6 _ ⟨?_, fun b o q => F₈.keep b o (hg0 b o q), F'.above⟩ (fun p hp => ?_) (Ne.symm hxd) hlad hlbd
  · obtain ⟨oL, es, ep, hL, r⟩ := F'.ns
    exact ⟨oL, es, ep, F₈.keep _ _ (hideAll_get _ hL (by simp [hLx, hLd])), r⟩
  · have hsrc : p ∈ [(lb, lst0), (la, lst0), (x, instObj 66 dx), (dx, dictOf (entD w.params (tk + 1) (tk + 2 + 1) (tk + 2 + 2 + 1) (tk + 2 + 2 + 2 + 1) (.ref la) (.ref lb)) 4)] := by
      simp only [List.mem_cons, List.not_mem_nil, or_false] at hp ⊢
      rcases hp with q | q | q | q
      · exact .inr (.inr (.inl q))
      · exact .inr (.inr (.inr q))
      · exact .inr (.inl q)
      · exact .inl q
    have hq := N₈ p hsrc
    refine ⟨hq.1, fun e => ?_, ?_⟩
    · obtain ⟨oL, es, ep, hL, _⟩ := F'.ns
      have := hq.2.2
      rw [e, hideAll_get _ hL (by simp [hLx, hLd])] at this
      cases this
    · cases q0 : h₀.get? p.1 with
      | none => rfl
      | some o => have := hq.2.2; rw [hg0 _ _ q0] at this; cases this
end Mine

end

section
set_option maxRecDepth 100000
namespace Mine
open PySem PySem.W PySem.Calls PyProof.Rows
open Sem (wp)
section
variable {M : Model} {A : Around} {E : Value → Shared → Prop} {s₀ s : Shared} {m cm : Str → Option Value} {env : Env}
theorem icFr {L : Addr} {cs : List (Str × Addr)} (x : InCallC s₀ L m cs cm s) : Fr s₀.heap L s.heap m := ⟨x.toInCall.ns, x.toInCall.keep, x.toInCall.fresh⟩
theorem stF {h₀ : Heap} {n : Str} {v : Value} {news : List (Addr × Obj)} {Q : Unit → Shared → Prop} (F : Fr h₀ env.locals s.heap m) (N : News h₀ env.locals s.heap news) (hk : env.scope.kind = .function) (hl : env.kindOf n = some .local)
    (h : ∀ h', Fr h₀ env.locals h' (fun y => if y = n then some v else m y) → News h₀ env.locals h' news → Q () { s with heap := h', toks := s.toks + 1 }) : wpAny M A (storeName env n v) Q E s :=
  wpAny_storeName_local hl F.ns (fun h' hn hs => h h' (F.set hn hs) (N.set hs)) (by rw [hk]; rfl)
theorem nmF {h₀ : Heap} {n : Str} {pos : Pos} {v : Value} {Q : Value → Shared → Prop} (F : Fr h₀ env.locals s.heap m) (hk : env.scope.kind = .function) (hl : env.kindOf n = some .local) (hv : m n = some v) (hd : (n == ("__debug__" : Str)) = false) (h : Q v s) :
    wpAny M A (eval (.Name n pos) env) Q E s := wpAny_Name (wpAny_loadName_local hk hl F.ns hv h) hd
theorem nmFn {h₀ : Heap} {w : World} (B : Bs w h₀) (F : Fr h₀ env.locals s.heap m) : Bs w s.heap := B.keeps F.keep
end
theorem record_spec {prog : Program} {w : World} {A : Around} {s : Shared} {Q : Value → Shared → Prop} {E : Value → Shared → Prop} {v : Value} (B : Bs w s.heap) (ok : OkA 4 A)
    (h : ∀ x dx lb s', Keeps s s' → Ent w s'.heap x dx v (.ref lb) → s'.heap.IsList lb #[] → Q (.ref x) s') :
    wpAny (model prog w) A (call (.ref 94) [v]) Q E s := by
  refine enterA (f := 94) (binds := [("agents", v)]) B ok.room rfl (by kernel_rfl) rfl rfl rfl rfl rfl rfl rfl ?_
  intro env s₁ he x
  have hk : env.scope.kind = .function := by rw [he]; rfl
  have e : EO env := ⟨hk, by rw [he]; rfl, by rw [he]; rfl⟩
  have k1 : env.kindOf "agents" = some .local := by rw [he]; rfl
  have k2 : env.kindOf "record" = some .local := by rw [he]; rfl
  have k3 : env.kindOf "Entry" = some .globalImplicit := by rw [he]; rfl
  simp only [bindL, bindC, k1, if_true] at x
  have F := icFr x
  have hsame := x.toInCall.same
  clear he x
  refine wpAny_execs_cons (wpAny_Assign_Name ?_ (by rfl))
  rw [arm_eval_Call_Name']
  refine wpAny_bind (nm_Entry (nmFn B F) e k3 (callWith_K0 (nmFn B F).X (by kernel_rfl) ?_))
  refine entry_K B F (ok.deeper env) fun x dx la lb t1 t2 t3 t4 h' tk F' N' n1 n2 n3 => ?_
  refine stF F' N' hk k2 fun h₂ F₂ N₂ => ?_
  refine wpAny_execs_cons (plainObj_wpAny_Assign_Attribute (nmF F₂ hk k1 rfl (by decide) (nmF F₂ hk k2 rfl (by decide) ?_)) (by rfl))
  refine ent_set (es' := entD w.params t1 t2 t3 t4 v (.ref lb)) (n' := 4) B F₂ N₂ ⟨(N₂ _ (.head _)).1, rfl, rfl, (N₂ _ (.tail _ (.head _))).1⟩ (by kernel_rfl) rfl rfl (.tail n1 (.head ?_)) (Nat.le_of_ble_eq_true rfl) fun h₃ F₃ N₃ => ?_
  · intro p hp
    rcases List.mem_cons.mp hp with rfl | hp
    · exact n2
    · rw [List.mem_singleton.mp hp]; exact n3
  refine wpAny_execs_cons (wpAny_Return_some (nmF F₃ hk k2 rfl (by decide) ?_))
  obtain ⟨hh, tk', rfl⟩ := hsame
  exact h x dx lb _ ⟨h₃, _, rfl, F₃.keep⟩ ⟨(N₃ _ (.head _)).1, t1, t2, t3, t4, (N₃ _ (.tail _ (.head _))).1⟩ ⟨_, (N₃ _ (.tail _ (.tail _ (.tail _ (.head _))))).1, rfl, _, rfl⟩
end Mine

end

section
set_option maxRecDepth 100000
namespace Mine
open PySem PySem.W PySem.Calls PyProof.Rows
open Sem (wp)

/-- the values of the walk are strings, the i-th is val i -/
def metS (val : Nat → Str) (i : Nat) (k : Str) : Bool := decide (∃ j, j < i ∧ val j = k)

section
variable {prog : Program} {w : World} {A : Around} {R : Result → Shared → Prop} {I : Addr} {fp wr : List Addr} {G : Array GenState → Array GenState → Prop} {n : Nat} {P : Nat → Value → Prop} {St : Nat → Shared → Prop}

theorem set_loop (W : WalksS prog w A.in1 I fp wr G n P St) (S : Addr) (hSf : S ∉ fp)
    (val : Nat → Str) (hval : ∀ i v, P i v → ∃ t, v = .str (val i) t) (hb : n + 1 < scanBound) :
    ∀ (k i c : Nat) (s : Shared), n - i = k → i ≤ n → c ≤ i → St i s →
      s.heap.SetOf (PySem.strKind prog w) S (fun k' => metS val i k') c →
      (∀ s' c', Moved (S :: wr) G s s' → s'.heap.SetOf (PySem.strKind prog w) S (fun k' => metS val n k') c' → R (.ok (.ret .none)) s') →
      codeAny (model prog w) A (.builtin "set.update.loop" ⟨[.ref S, .ref I], []⟩) R s := by
  have hSw : S ∉ wr := fun h => hSf (W.sub _ h)
  have hsub : ∀ b ∈ wr, b ∈ S :: wr := fun b hb => List.mem_cons_of_mem _ hb
  intro k
  induction k with
  | zero =>
    intro i c s hk hi _ hst hS hR
    have hin : i = n := by omega
    subst hin
    refine codeAny_builtin PyProof.Rows.F.entry_set_update_loop ?_
    rw [Around.under_plainId PyProof.Rows.F.plain_set_update_loop _]
    show wpAny _ A.in1 (pyNext (.ref I) >>= _) _ _ s
    refine wpAny_bind (W.done s _ _ hst fun s' hm => ?_)
    show wpAny _ A.in1 (ret Value.none) _ _ s'
    exact wpAny_pure (hR s' c (hm.mono hsub) (by
      obtain ⟨o, es, ep, t, ho, rest⟩ := hS
      exact ⟨o, es, ep, t, hm.heap S _ hSw ho, rest⟩))
  | succ k ih =>
    intro i c s hk hi hc hst hS hR
    have hlt : i < n := by omega
    refine codeAny_builtin PyProof.Rows.F.entry_set_update_loop ?_
    rw [Around.under_plainId PyProof.Rows.F.plain_set_update_loop _]
    show wpAny _ A.in1 (pyNext (.ref I) >>= _) _ _ s
    refine wpAny_bind (W.item i s _ _ hlt hst fun v s' hP hst' hm => ?_)
    obtain ⟨t, rfl⟩ := hval i v hP
    have hS' : s'.heap.SetOf (PySem.strKind prog w) S (fun k' => metS val i k') c := by
      obtain ⟨o, es, ep, tb, ho, rest⟩ := hS
      exact ⟨o, es, ep, tb, hm.heap S _ hSw ho, rest⟩
    show wpAny _ A.in1 (holding [Value.str (val i) t] (setAdd S (.str (val i) t)) >>= _) _ _ s'
    refine wpAny_bind (wpAny_holding ?_)
    unfold setAdd
    refine wpAny_holding ?_
    refine wpAny_bind ((PySem.strKind prog w).pyHash (k := val i) (strKind_is _ _ _ _) ?_)
    refine wpAny_setAddHashed_of (knd := PySem.strKind prog w) (s := { s' with toks := s'.toks + 1 }) (strKind_is _ _ _ _) rfl hS' (by omega) fun h' hsb hS2 => ?_
    have hSi : h'.SetOf (PySem.strKind prog w) S (fun k' => metS val (i + 1) k') (if metS val i (val i) = true then c else c + 1) :=
      SetOf_congr hS2 (fun k' => by
        unfold metS
        rw [← Bool.decide_or]
        refine decide_eq_decide.mpr ⟨fun h => ?_, fun h => ?_⟩
        · rcases h with ⟨j, hj, e⟩ | e
          · exact ⟨j, by omega, e⟩
          · exact ⟨i, by omega, e.symm⟩
        · obtain ⟨j, hj, e⟩ := h
          by_cases hji : j = i
          · right; rw [← e, hji]
          · left; exact ⟨j, by omega, e⟩) rfl
    refine wpAny_pure ⟨plainId_quiet PyProof.Rows.F.plain_set_update_loop _, ih (i + 1) _ _ (by omega) hlt (by split <;> omega) (W.frame _ s' _ _ hst' (Nat.le_succ _) fun b hb o e => ?_) hSi fun s'' c'' hm'' hS'' => ?_⟩
    · rw [hsb.2 b (fun h : b = S => hSf (by rw [← h]; exact hb))]; exact e
    · refine hR s'' c'' (Moved.trans W.gtrans ((hm.mono hsub).then_heap (Nat.le_succ _) fun b o hb e => ?_) hm'') hS''
      rw [hsb.2 b (fun h : b = S => hb (by rw [h]; exact List.mem_cons_self))]; exact e
end

section
variable {prog : Program} {w : World} {A : Around} {E : Value → Shared → Prop} {s : Shared}
set_option maxHeartbeats 3200000 in
theorem set_strs {l : Addr} {items : Array Value} {val : Nat → Str} {Q : Value → Shared → Prop}
    (hh : A.handled = none) (hl : s.heap.IsList l items) (hv : ∀ (i : Nat) (v : Value), items[i]? = some v → ∃ t, v = Value.str (val i) t) (hb : items.size + 1 < scanBound)
    (h : ∀ (h' : Heap) (tk c : Nat), h'.SetOf (PySem.strKind prog w) s.heap.objs.size (fun k' => metS val items.size k') c →
      (∀ b o, b < s.heap.objs.size → s.heap.get? b = some o → h'.get? b = some o) → Q (.ref s.heap.objs.size) { s with heap := h', toks := tk }) :
    wpAny (model prog w) A (call (.type "set") [.ref l]) Q E s := by
  obtain ⟨c, tl, hmro⟩ := F.called_set.mro
  have hmade := F.called_set.made
  have hsub := F.called_set.sub
  refine wpAny_call (codeAny_of_tree ?_)
  show wpAny _ _ (callAny (.type "set") _) _ _ _
  refine wpAny_pure ⟨Code.quiet_builtin _ (by decide +kernel), codeAny_builtin F.entry_type_call ?_⟩
  rw [Around.under_plain (weight_type_call_type "set" [.ref l] []) rfl]
  have h1 := F.called_set.notType
  have h2 := F.called_set.canCreate
  have hct := F.typeCall_set_1 (.ref l)
  repeat (any_goals (first | assumption | wp_step))
  refine codeAny_mono (code_set_new_1 (.ref l) (E := E) (Q₁ := fun obj s₁ => ∃ led : Bool, obj = .ref s.heap.objs.size ∧ s₁ = { s with heap := s.heap.push { cls := .type "set", dict := none, data := .set #[] 0 (.fresh 0 0 led) } }) fun led => ⟨led, rfl, rfl⟩) fun r s₁ hr => ?_
  cases r with
  | error e => exact hr
  | ok fl =>
    cases fl with
    | ret obj =>
      obtain ⟨led, rfl, rfl⟩ := hr
      have hS : (s.heap.push { cls := .type "set", dict := none, data := .set #[] 0 (.fresh 0 0 led) }).get? s.heap.objs.size = some { cls := .type "set", dict := none, data := .set #[] 0 (.fresh 0 0 led) } := Heap.get?_push_size _ rfl
      have hT : Shared.TypeIs { s with heap := s.heap.push { cls := .type "set", dict := none, data := .set #[] 0 (.fresh 0 0 led) } } (.ref s.heap.objs.size) "set" := ⟨_, hS, rfl⟩
      have hli := F.called_set.init.lookup
      have hbi := F.called_set.init.bind (.ref s.heap.objs.size)
      repeat (any_goals (first | assumption | wp_step))
      refine codeAny_mono (codeAny_call_builtin (R := wants (fun r s₂ => r = .none ∧ ∃ h' tk c, s₂ = { s with heap := h', toks := tk } ∧
          h'.SetOf (PySem.strKind prog w) s.heap.objs.size (fun k' => metS val items.size k') c ∧
          (∀ b o, b < s.heap.objs.size → s.heap.get? b = some o → h'.get? b = some o)) E) F.called_set.init.plain F.entry_set_init (check_set_init_1 hT ?_)) fun r₂ s₂ hr₂ => ?_
      · obtain ⟨ol, hol, hcl, nl, hdl⟩ := hl
        obtain ⟨ocls, odict, odata, oslots⟩ := ol
        simp only at hcl hdl
        subst hcl; subst hdl
        have hol' : (s.heap.push { cls := .type "set", dict := none, data := .set #[] 0 (.fresh 0 0 led) }).get? l = some { cls := .type "list", dict := odict, data := .seq items nl, slots := oslots } := Heap.get?_push_of_some _ hol
        have hsls := F.sub_list_set
        have hslf := F.sub_list_frozenset
        have hne : (Value.type "list" == Value.type "dict") = false := by decide
        have hl1 : (s.heap.push { cls := .type "set", dict := none, data := .set #[] 0 (.fresh 0 0 led) }).IsList l items := ⟨_, hol', rfl, nl, rfl⟩
        unfold Builtin.«set.__init__» noKeywords Builtin.Frozenset.updateFrom
        generalize hPI : pyIter = PI
        wp_walk
        subst hPI
        refine wpAny_pyIter_list hl1 ?_
        refine wpAny_bind (wpAny_runValue ?_)
        have hlS : l < s.heap.objs.size := Heap.lt_size hol
        have hh3 : A.in1.in1.in1.handled = none := by simp [hh]
        have hneI : l ≠ (s.heap.push { cls := .type "set", dict := none, data := .set #[] 0 (.fresh 0 0 led) }).objs.size := by
          rw [Heap.size_push]; exact Nat.ne_of_lt (Nat.lt_succ_of_lt hlS)
        have hSf : s.heap.objs.size ∉ [(s.heap.push { cls := .type "set", dict := none, data := .set #[] 0 (.fresh 0 0 led) }).objs.size, l] := by
          rw [Heap.size_push]; simp only [List.mem_cons, List.mem_singleton, List.not_mem_nil, or_false, not_or]
          exact ⟨Nat.ne_of_lt (Nat.lt_succ_self _), Nat.ne_of_gt hlS⟩
        refine set_loop ((Walks.list hh3 _ l hneI items).toS) s.heap.objs.size
          hSf val hv hb (items.size - 0) 0 0 _ (by omega) (Nat.zero_le _) (Nat.le_refl _)
          ⟨⟨_, Heap.get?_push_size _ rfl, rfl, rfl⟩, (hl1.push _)⟩ ?hS0 ?hR
        case hS0 =>
          have hget : ((s.heap.push { cls := .type "set", dict := none, data := .set #[] 0 (.fresh 0 0 led) }).push { cls := .type "list_iterator", data := .fields #[.ref l, .int 0 0] }).get? s.heap.objs.size
              = some { cls := .type "set", dict := none, data := .set #[] 0 (.fresh 0 0 led) } := Heap.get?_push_of_some _ hS
          exact SetOf_congr ((setObjOf_fresh (knd := PySem.strKind prog w) led).setOf hget (by unfold scanBound; omega)) (fun k => by unfold metS; simp) rfl
        case hR =>
          intro s' c' hm hS'
          obtain ⟨h', g', d', tk', os'⟩ := s'
          have eg : g' = s.gens := hm.gens
          have ed : d' = s.drawn := hm.drawn
          have eo : os' = s.os := hm.os
          subst eg; subst ed; subst eo
          show wpAny _ _ _ _ _ _
          refine wpAny_pure ?_
          show wpAny _ _ (ret Value.none) _ _ _
          refine wpAny_pure ⟨rfl, h', tk', c', rfl, hS', fun b o hb e => ?_⟩
          have hb1 : b ≠ s.heap.objs.size := Nat.ne_of_lt hb
          have hb2 : b ≠ (s.heap.push { cls := .type "set", dict := none, data := .set #[] 0 (.fresh 0 0 led) }).objs.size := by
            rw [Heap.size_push]; exact Nat.ne_of_lt (Nat.lt_succ_of_lt hb)
          exact hm.heap b o (by simp only [List.mem_cons, List.mem_singleton, List.not_mem_nil, or_false, not_or]; exact ⟨hb1, hb2⟩) (Heap.get?_push_of_some _ (Heap.get?_push_of_some _ e))
      · cases r₂ with
        | error e => exact hr₂
        | ok fl₂ =>
          cases fl₂ with
          | ret r =>
            obtain ⟨rfl, h', tk, c, rfl, hS', hk'⟩ := hr₂
            repeat (any_goals (first | assumption | wp_step))
            exact h _ _ _ hS' hk'
          | _ => exact hr₂.elim
    | _ => exact hr.elim
end
end Mine

end

section
set_option maxRecDepth 100000
namespace Mine
open PySem PySem.W PySem.Calls PyProof.Rows
open Sem (wp)
theorem sc_type : typeOf (.builtin "set.__contains__") = pure (.type "method_descriptor") := by kernel_rfl
theorem slot_md_get : Slot "method_descriptor" "__get__" "method_descriptor.__get__" :=
  .of (owner := "method_descriptor") (n := "__get__") (by rw [typeLookup_type, builtinLookup_eq_fast]; kernel_rfl) (by decide +kernel) (by decide +kernel) (by decide +kernel)
    (by first | exact .inl (by decide +kernel) | exact .inr (by decide +kernel)) (by rw [isSubtype_type]; kernel_rfl)
theorem entry_md_get : entryFor table "method_descriptor.__get__" = some Builtin.«method_descriptor.__get__» := entryFor_of_tree (by kernel_rfl)
theorem args_md_get (a b c : Value) : argsOk "method_descriptor.__get__" ⟨[a, b, c], []⟩ := by unfold argsOk; kernel_rfl
theorem md_set : typeLookup (.type "method_descriptor") "__set__" = pure none := by rw [typeLookup_type, builtinLookup_eq_fast]; kernel_rfl
theorem md_del : typeLookup (.type "method_descriptor") "__delete__" = pure none := by rw [typeLookup_type, builtinLookup_eq_fast]; kernel_rfl
theorem sc_lk : typeLookup (.type "set") "__contains__" = pure (some (.builtin "set.__contains__")) := by rw [typeLookup_type, builtinLookup_eq_fast]; kernel_rfl
theorem owner_sc : (".".intercalate ("set.__contains__".cutAt '.').dropLast) = "set" := by
  have e0 : "set.__contains__".cutAt '.' = ["set", "__contains__"] := by first | rfl | decide +kernel
  rw [e0]; decide +kernel
theorem sc_sub : isSubtype (.type "set") (.type (".".intercalate ("set.__contains__".cutAt '.').dropLast)) = pure true := by
  rw [owner_sc, isSubtype_type]; kernel_rfl
theorem sc_told : Manifest.toldItsClass.contains "set.__contains__" = false := by decide +kernel
theorem set_no_getattr : typeLookup (.type "set") "__getattr__" = pure none := by rw [typeLookup_type, builtinLookup_eq_fast]; kernel_rfl
theorem sc_nodata : withoutEnding? "x" "#data" = none := by decide +kernel
section
variable {prog : Program} {w : World} {A : Around} {E : Value → Shared → Prop} {h : Heap} {g : Array GenState} {d : Drawn} {t : Nat} {os : OsState} {a : Addr} {o : Obj}
theorem sc_get {R : Result → Shared → Prop} {es ep tb sl} (hx : h.get? a = some { cls := .type "set", dict := none, data := .set es ep tb, slots := sl })
    (hq : R (.ok (.ret (.ref h.objs.size))) ⟨h.push { cls := .type "builtin_function_or_method", data := .fields #[.builtin "set.__contains__", .ref a] }, g, d, t, os⟩) :
    codeAny (model prog w) A (.call (.builtin "method_descriptor.__get__") ⟨[.builtin "set.__contains__", .ref a, .type "set"], []⟩) R ⟨h, g, d, t, os⟩ := by
  have hT : (⟨h, g, d, t, os⟩ : Shared).TypeIs (.ref a) "set" := ⟨_, hx, rfl⟩
  have hT5 : (⟨h, g, d, t, os⟩ : Shared).TypeIs (.builtin "set.__contains__") "method_descriptor" := sc_type
  have f8 := sc_sub
  have f9 := sc_told
  refine codeAny_call_builtin slot_md_get.plain entry_md_get (slot_md_get.check _ _ _ _ _ _ _ _ hT5 (args_md_get _ _ _) ?_)
  unfold Builtin.«method_descriptor.__get__»
  refine wpAny_bind (wpAny_pure ?_)
  have n1 : (Value.ref a == Value.none) = false := rfl
  have n2 : (Value.type "set" == Value.none) = false := rfl
  simp only [n1, n2, f9, Bool.false_eq_true, if_false]
  refine wpAny_bind ?_
  refine wpAny_bind (wpAny_pure ?_)
  refine wpAny_bind (wpAny_isInstance hT f8 ?_)
  simp only [Bool.not_true, Bool.false_eq_true, if_false]
  refine wpAny_pure ?_
  refine wpAny_bind (wpAny_bind (wpAny_alloc ?_))
  exact wpAny_pure (wpAny_pure hq)
theorem sc_entry {tk : Tok} {es ep tb sl} {Q : PySem.Fin → Shared → Prop} (hx : h.get? a = some { cls := .type "set", dict := none, data := .set es ep tb, slots := sl })
    (hq : Q (.done (.ret (.ref h.objs.size))) ⟨h.push { cls := .type "builtin_function_or_method", data := .fields #[.builtin "set.__contains__", .ref a] }, g, d, t, os⟩) :
    wpAny (model prog w) A (Builtin.«object.__getattribute__» ⟨[.ref a, .str "__contains__" tk], []⟩) Q E ⟨h, g, d, t, os⟩ := by
  have hT : (⟨h, g, d, t, os⟩ : Shared).TypeIs (.ref a) "set" := ⟨_, hx, rfl⟩
  have hT5 : (⟨h, g, d, t, os⟩ : Shared).TypeIs (.builtin "set.__contains__") "method_descriptor" := sc_type
  have f4 := sc_lk
  have f5 := sc_type
  have f6 := slot_md_get.lookup
  have f7 := md_set
  have f8 := md_del
  repeat (any_goals (first | assumption | wp_step))
  refine sc_get hx ?_
  exact wpAny_pure hq
theorem sc_attr {es ep tb sl} {Q : Value → Shared → Prop} (hx : h.get? a = some { cls := .type "set", dict := none, data := .set es ep tb, slots := sl })
    (hq : Q (.ref h.objs.size) ⟨h.push { cls := .type "builtin_function_or_method", data := .fields #[.builtin "set.__contains__", .ref a] }, g, d, t + 1, os⟩) :
    wpAny (model prog w) A (getAttr (.ref a) "__contains__" true) Q E ⟨h, g, d, t, os⟩ := by
  have hT : ∀ tk, (⟨h, g, d, tk, os⟩ : Shared).TypeIs (.ref a) "set" := fun _ => ⟨_, hx, rfl⟩
  have hT1 := hT (t + 1)
  have f2 := F.slot_set_getattribute.lookup
  have f3 := F.slot_set_getattribute.bind (.ref a)
  have f5 := set_no_getattr
  have hcall : ∀ (A : Around) tk (R : Result → Shared → Prop), R (.ok (.ret (.ref h.objs.size))) ⟨h.push { cls := .type "builtin_function_or_method", data := .fields #[.builtin "set.__contains__", .ref a] }, g, d, t + 1, os⟩ →
      codeAny (model prog w) A (.call (.builtin "set.__getattribute__") ⟨[.ref a, .str "__contains__" tk], []⟩) R ⟨h, g, d, t + 1, os⟩ := fun A tk R hR =>
    codeAny_call_builtin F.slot_set_getattribute.plain F.entry_set_ga (F.slot_set_getattribute.check _ _ _ _ _ _ _ _ (hT _) (F.args_set_getattribute_2 _ _) (sc_entry hx hR))
  unfold getAttr getAttrBy
  repeat (any_goals (first | assumption | wp_step))
  refine hcall _ _ _ ?_
  repeat (any_goals (first | assumption | wp_step))
end
end Mine

end

section
set_option maxRecDepth 100000
namespace Mine
open PySem PySem.W PySem.Calls PyProof.Rows
open Sem (wp)

-- facts of the class filter
theorem filter_iter_entry : entryFor table "filter.__iter__" = some Builtin.«dict_keyiterator.__iter__» :=
  entryFor_alias (id' := "dict_keyiterator.__iter__") (by rw [fastTable_eq_tree]; kernel_rfl) (by decide +kernel) (by decide +kernel) (by rw [fastTable_eq_tree]; kernel_rfl)
theorem mro_filter : mroOf (.type "filter") = pure [.type "filter", .type "object"] := by rw [mroOf_type]; kernel_rfl
theorem filter_new_lk : typeLookup (.type "filter") "__new__" = pure (some (.builtin "filter.__new__")) := by rw [typeLookup_type, builtinLookup_eq_fast]; kernel_rfl
theorem slot_filter_init : Slot "filter" "__init__" "object.__init__" :=
  .of (owner := "object") (n := "__init__") (by rw [typeLookup_type, builtinLookup_eq_fast]; kernel_rfl) (by decide +kernel) (by decide +kernel) (by decide +kernel)
    (by first | exact .inl (by decide +kernel) | exact .inr (by decide +kernel)) (by rw [isSubtype_type]; kernel_rfl)
theorem slot_filter_next : Slot "filter" "__next__" "filter.__next__" :=
  .of (owner := "filter") (n := "__next__") (by rw [typeLookup_type, builtinLookup_eq_fast]; kernel_rfl) (by decide +kernel) (by decide +kernel) (by decide +kernel)
    (by first | exact .inl (by decide +kernel) | exact .inr (by decide +kernel)) (by rw [isSubtype_type]; kernel_rfl)
theorem slot_filter_iter : Slot "filter" "__iter__" "filter.__iter__" :=
  .of (owner := "filter") (n := "__iter__") (by rw [typeLookup_type, builtinLookup_eq_fast]; kernel_rfl) (by decide +kernel) (by decide +kernel) (by decide +kernel)
    (by first | exact .inl (by decide +kernel) | exact .inr (by decide +kernel)) (by rw [isSubtype_type]; kernel_rfl)
theorem called_filter : TypeCalled "filter" "filter.__new__" "object.__init__" :=
  ⟨by decide +kernel, by decide +kernel, ⟨_, _, mro_filter⟩, madeBy_type mro_filter filter_new_lk (by decide +kernel), by decide +kernel, by rw [isSubtype_type]; kernel_rfl, slot_filter_init⟩
theorem filter_typeCall (a b : Value) : checkTypeCall "filter" ⟨[a, b], []⟩ = pure () := by kernel_rfl
theorem filter_newCall (a b : Value) : checkBuiltinCall "filter.__new__" ⟨[.type "filter", a, b], []⟩ = pure () := by kernel_rfl
theorem filter_new_entry : entryFor table "filter.__new__" = some Builtin.«filter.__new__» := entryFor_of_tree (by kernel_rfl)
theorem filter_next_entry : entryFor table "filter.__next__" = some Builtin.«filter.__next__» := entryFor_of_tree (by kernel_rfl)
theorem filter_next_plain : plainId "filter.__next__" = true := by decide +kernel
theorem filter_sub : isSubtype (.type "filter") (.type "filter") = pure true := by rw [isSubtype_type]; kernel_rfl
theorem filter_next_args (a : Value) : argsOk "filter.__next__" ⟨[a], []⟩ := by unfold argsOk; kernel_rfl
theorem filter_iter_args (a : Value) : argsOk "filter.__iter__" ⟨[a], []⟩ := by unfold argsOk; kernel_rfl
theorem filter_no_len : typeLookup (.type "filter") "__len__" = pure none := by rw [typeLookup_type, builtinLookup_eq_fast]; kernel_rfl
theorem filter_no_hint : typeLookup (.type "filter") "__length_hint__" = pure none := by rw [typeLookup_type, builtinLookup_eq_fast]; kernel_rfl
abbrev scSig (full : String) : Manifest.Signature := ⟨.oneArg, full, "__contains__", .self, [⟨"object", .posOnly, true⟩]⟩
theorem sc_sig : Manifest.signature? "set.__contains__" = some (scSig "set.__contains__") := by
  rw [signature?_of (id := "set.__contains__") (n := ['_', '_', 's', 'n', 'i', 'a', 't', 'n', 'o', 'c', '_', '_']) (o := ['t', 'e', 's']) (by kernel_rfl) F.owner_set]; kernel_rfl
theorem sc_kind : builtinKind "set.__contains__" = some .method := by kernel_rfl
theorem sc_varargs : Manifest.varargsMethods.contains "set.__contains__" = false := by decide +kernel
theorem sc_full : ((s!"{Bind.lastOf "set"}.{Bind.lastOf "set.__contains__"}") != "*") = true := by decide +kernel
theorem sc_check (full : String) (hf : (full != "*") = true) (a b : Value) : Bind.checkArgs "set.__contains__" (scSig full) ⟨[a, b], []⟩ = pure () := by
  have h2 : (("__contains__" : String) != "*") = true := by decide
  unfold Bind.checkArgs Bind.printed
  simp only [hf, h2]
  rfl
theorem set_mod : isSubtype (.type "set") (.type "module") = pure false := by rw [isSubtype_type]; kernel_rfl
theorem sc_plain : plainId "set.__contains__" = true := by decide +kernel

abbrev IsBC (h : Heap) (m a : Addr) : Prop := h.get? m = some { cls := .type "builtin_function_or_method", data := .fields #[.builtin "set.__contains__", .ref a] }
abbrev IsFilter (h : Heap) (f m i : Addr) : Prop := h.get? f = some { cls := .type "filter", data := .fields #[.ref m, .ref i] }
section
variable {prog : Program} {w : World} {A : Around} {E : Value → Shared → Prop} {s : Shared} {a : Addr}
theorem filter_new_meets (m l : Addr) (xs : Array Value) :
    Meets (Builtin.«filter.__new__» ⟨[.type "filter", .ref m, .ref l], []⟩) (fun _ R s => s.heap.IsList l xs ∧
      R (.ok (.ret (.ref (s.heap.objs.size + 1)))) { s with heap := (s.heap.push { cls := .type "list_iterator", data := .fields #[.ref l, .int 0 0] }).push { cls := .type "filter", data := .fields #[.ref m, .ref s.heap.objs.size] } }) :=
  .of_wp fun prog w A R s h => by
    obtain ⟨hp, g, d, tk, os⟩ := s; obtain ⟨hl1, h⟩ := h
    have hsub := filter_sub
    have hL1 : Heap.IsList (Shared.heap ⟨hp, g, d, tk, os⟩) l xs := hl1
    wp_walk using wpAny_pyIter_list hL1
    refine ⟨_, rfl, ?_⟩
    rw [Heap.size_push]
    exact h
theorem call_filter {m l : Addr} {xs : Array Value} {Q : Value → Shared → Prop} (hl : s.heap.IsList l xs)
    (h : ∀ h', IsFilter h' (s.heap.objs.size + 1) m s.heap.objs.size → h'.IsListIter s.heap.objs.size l 0 → h'.objs.size = s.heap.objs.size + 2 → (∀ c o, s.heap.get? c = some o → h'.get? c = some o) → Q (.ref (s.heap.objs.size + 1)) { s with heap := h' }) :
    wpAny (model prog w) A (call (.type "filter") [.ref m, .ref l]) Q E s := by
  refine callType_new called_filter (by decide) (filter_typeCall _ _) (filter_newCall _ _) (fun obj => F.args_object_init_3 obj _ _) filter_new_entry
    (filter_new_meets m l xs) ⟨hl, ?_⟩
  have z1 : (s.heap.push { cls := .type "list_iterator", data := .fields #[.ref l, .int 0 0] }).objs.size = s.heap.objs.size + 1 := Heap.size_push ..
  have g5 : ((s.heap.push { cls := .type "list_iterator", data := .fields #[.ref l, .int 0 0] }).push { cls := .type "filter", data := .fields #[.ref m, .ref s.heap.objs.size] }).get? (s.heap.objs.size + 1) = some _ := z1 ▸ Heap.get?_push_size _ rfl
  exact ⟨⟨_, g5, rfl⟩, h _ g5 ⟨_, Heap.get?_push_of_some _ (Heap.get?_push_size _ rfl), rfl, rfl⟩ (by rw [Heap.size_push, z1]) fun c o x => Heap.get?_push_of_some _ (Heap.get?_push_of_some _ x)⟩
theorem sc_bound {T : Str → Bool} {n : Nat} {a m : Addr} {x : Str} {t : Tok} {Q : Value → Shared → Prop} (hm : IsBC s.heap m a) (hS : s.heap.SetOf (PySem.strKind prog w) a T n)
    (h : Q (.bool (T x)) { s with toks := s.toks + 1 }) : wpAny (model prog w) A (call (.ref m) [.str x t]) Q E s := by
  have hT := hS.typeIs
  refine wpAny_call (codeAny_of_tree ?_)
  show wpAny _ _ (load m >>= _) _ _ _
  refine wpAny_bind (wpAny_load hm ?_)
  show wpAny _ _ (checkBoundCall "set.__contains__" ⟨[.ref a, .str x t], []⟩ >>= fun _ => again (.builtin "set.__contains__" ⟨[.ref a, .str x t], []⟩)) _ _ _
  refine wpAny_bind ?_
  unfold checkBoundCall
  simp only [sc_sig, sc_kind]
  have e1 : ((Manifest.AttrKind.method != Manifest.AttrKind.method) && (Manifest.AttrKind.method != Manifest.AttrKind.classMethod)) = false := by decide
  simp only [e1, Bool.false_eq_true, if_false]
  refine wpAny_bind (wpAny_isInstance hT set_mod ?_)
  simp only [sc_varargs, Bool.or_false, Bool.false_eq_true, if_false]
  obtain ⟨o, es, ep, tb, ho, hx, hd, _⟩ := id hS
  unfold isType
  simp only [bind_assoc]
  refine wpAny_bind (wpAny_loadPart ho ?_)
  simp only [hd, pure_bind, Bool.false_eq_true, if_false]
  refine wpAny_bind (wpAny_typeOf hT ?_)
  refine wpAny_of_eq (sc_check _ sc_full _ _) ?_
  refine wpAny_pure ⟨plainId_quiet sc_plain _, codeAny_builtin entry_set_contains ?_⟩
  rw [Around.under_plainId sc_plain _]
  unfold Builtin.«frozenset.__contains__» Builtin.Frozenset.oneOther
  simp only [List.isEmpty_nil, bind_assoc]
  unfold Builtin.Frozenset.addrOf Builtin.Frozenset.withSetAsKey setContains
  refine wpAny_bind (wpAny_pure ?_)
  try dsimp only
  refine wpAny_bind (wpAny_pure ?_)
  try dsimp only
  refine wpAny_bind (wpAny_tryCatch ?_)
  refine wpAny_holding ?_
  refine wpAny_bind ((PySem.strKind prog w).pyHash (k := x) (strKind_is _ _ _ _) ?_)
  refine wpAny_bind (wpAny_setFind_of (k := x) (s := { s with toks := s.toks + 1 }) (strKind_is _ _ _ _) rfl hS fun r hr => ?_)
  refine wpAny_pure ?_
  show wpAny _ _ (ret (Value.bool r.isSome)) _ _ _
  rw [hr]
  exact wpAny_pure h
end
end Mine

end

section
set_option maxRecDepth 100000
namespace Mine
open PySem PySem.W PySem.Calls PyProof.Rows
open Sem (wp)
section
variable {prog : Program} {w : World} {A : Around} {E : Value → Shared → Prop} {s : Shared}
theorem li_item {it l : Addr} {i : Nat} {items : Array Value} {x : Value} {Q : Option Value → Shared → Prop} (hit : s.heap.IsListIter it l i)
    (hl : s.heap.IsList l items) (hx : items[i]? = some x)
    (hQ : ∀ h', h'.IsListIter it l (i + 1) → Heap.SameBut it s.heap h' → Q (some x) { s with heap := h' }) :
    wpAny (model prog w) A (callSpecial? (.ref it) "__next__") Q E s := by
  obtain ⟨o, ho, hc, hd⟩ := id hit
  obtain ⟨ol, hol, _, nl, hdl⟩ := hl
  refine wpAny_callSpecial?_slot (name := Str.ofString "__next__") hit.typeIs slot_listiter_next
    (wpAny_call_entry slot_listiter_next hit.typeIs entry_listiter_next ?_ (args_listiter_next _))
  show wpAny _ _ (field (.ref it) 0 >>= _) _ _ s
  refine wpAny_bind (wpAny_field ho hd (x := .ref l) rfl ?_)
  show wpAny _ _ (if (Value.ref l == Value.none) = true then _ else _) _ _ s
  rw [if_neg (show ¬ ((Value.ref l == Value.none) = true) from Bool.false_ne_true)]
  show wpAny _ _ (field (.ref it) 1 >>= _) _ _ s
  refine wpAny_bind (wpAny_field ho hd (x := .int i 0) rfl ?_)
  show wpAny _ _ (seqItems? (.ref l) >>= _) _ _ s
  refine wpAny_bind (wpAny_seqItems hol hdl ?_)
  simp only [Int.toNat_natCast, hx]
  refine wpAny_bind (wpAny_setField ho hd (by simp) (wpAny_pure ⟨x, rfl, hQ _ ?_ (Heap.SameBut.update ..)⟩))
  exact ⟨_, Heap.get?_update_self _ ho (Obj.isFreed_of_fields (Obj.data_mapFields hd _)), (Obj.cls_mapFields ..).trans hc, by
    rw [Obj.data_mapFields hd]; simp [rawInt]⟩
theorem li_end {it l : Addr} {i : Nat} {items : Array Value} {Q : Option Value → Shared → Prop} (hh : A.handled = none)
    (hit : s.heap.IsListIter it l i) (hl : s.heap.IsList l items) (hx : items[i]? = none)
    (hE : ∀ h' e, Heap.ExtBut it s.heap h' → Shared.TypeIs { s with heap := h' } (.ref e) "StopIteration" → E (.ref e) { s with heap := h' }) : wpAny (model prog w) A (callSpecial? (.ref it) "__next__") Q E s := by
  obtain ⟨o, ho, hc, hd⟩ := id hit
  obtain ⟨ol, hol, _, nl, hdl⟩ := hl
  refine wpAny_callSpecial?_slot (name := Str.ofString "__next__") hit.typeIs slot_listiter_next
    (wpAny_call_entry slot_listiter_next hit.typeIs entry_listiter_next ?_ (args_listiter_next _))
  show wpAny _ _ (field (.ref it) 0 >>= _) _ _ s
  refine wpAny_bind (wpAny_field ho hd (x := .ref l) rfl ?_)
  show wpAny _ _ (if (Value.ref l == Value.none) = true then _ else _) _ _ s
  rw [if_neg (show ¬ ((Value.ref l == Value.none) = true) from Bool.false_ne_true)]
  show wpAny _ _ (field (.ref it) 1 >>= _) _ _ s
  refine wpAny_bind (wpAny_field ho hd (x := .int i 0) rfl ?_)
  show wpAny _ _ (seqItems? (.ref l) >>= _) _ _ s
  refine wpAny_bind (wpAny_seqItems hol hdl ?_)
  simp only [Int.toNat_natCast, hx]
  refine wpAny_bind (wpAny_rule (wpAny_bind (wpAny_setField ho hd (by simp) ?_)))
  show wpAny _ _ (newExc (.type "StopIteration") [] >>= _) _ _ _
  refine wpAny_bind ?_
  simp only [newExc, newTuple]
  refine wpAny_bind (wpAny_newObj_type ?_ (by size_fits))
  refine wpAny_bind (m := firstArgMember _ _) (wpAny_of_eq (a := Value.none) (by first | rfl | (simp only [firstArgMember]; rfl)) ?_)
  refine wpAny_newObj_type ?_ (by size_fits)
  simp only [raiseNew]
  refine wpAny_bind (wpAny_handled ?_)
  rw [show A.in1.handled = none from hh]
  refine wpAny_bind (wpAny_pure (wpAny_throw ?_))
  exact hE _ _ (((Heap.SameBut.update ..).extBut.push _).push _) ⟨_, Heap.get?_push_size _ rfl, rfl⟩

/-- what a filter over a set's words keeps -/
def kept (T : Str → Bool) : Value → Bool
  | .str x _ => T x
  | _ => false

structure FS (prog : Program) (w : World) (f m I a ax : Addr) (T : Str → Bool) (n : Nat) (items : Array Value) (h : Heap) : Prop where
  fl : IsFilter h f m I
  bc : IsBC h m a
  st : h.SetOf (PySem.strKind prog w) a T n
  ls : h.IsList ax items

theorem FS.at {f m I a ax : Addr} {T : Str → Bool} {n : Nat} {items : Array Value} {h h' : Heap} (x : FS prog w f m I a ax T n items h) (hI : I ≠ f ∧ I ≠ m ∧ I ≠ a ∧ I ≠ ax)
    (k : ∀ b o, b ≠ I → h.get? b = some o → h'.get? b = some o) : FS prog w f m I a ax T n items h' where
  fl := k _ _ hI.1.symm x.fl
  bc := k _ _ hI.2.1.symm x.bc
  st := by
    obtain ⟨o, es, ep, t, ho, rest⟩ := x.st
    exact ⟨o, es, ep, t, k _ _ hI.2.2.1.symm ho, rest⟩
  ls := x.ls.at fun o e => k _ _ hI.2.2.2.symm e

theorem filter_code {f m I a ax : Addr} {T : Str → Bool} {n : Nat} {items : Array Value} {R : Result → Shared → Prop} (hh : A.handled = none) (hI : I ≠ f ∧ I ≠ m ∧ I ≠ a ∧ I ≠ ax)
    (hstr : ∀ (i : Nat) (v : Value), items[i]? = some v → ∃ x t, v = Value.str x t) :
    ∀ (k i : Nat) (s : Shared), items.size - i = k → i ≤ items.size → s.heap.IsListIter I ax i → FS prog w f m I a ax T n items s.heap →
      (∀ v rest i' h' tk, (items.toList.drop i).filter (kept T) = v :: rest → (items.toList.drop i').filter (kept T) = rest → i' ≤ items.size → h'.IsListIter I ax i' →
        (∀ b o, b ≠ I → s.heap.get? b = some o → h'.get? b = some o) → s.toks ≤ tk → R (.ok (.ret v)) { s with heap := h', toks := tk }) →
      ((items.toList.drop i).filter (kept T) = [] → ∀ e h' tk, (∀ b o, b ≠ I → s.heap.get? b = some o → h'.get? b = some o) → s.toks ≤ tk →
        Shared.TypeIs { s with heap := h', toks := tk } (.ref e) "StopIteration" → R (.error (.ref e)) { s with heap := h', toks := tk }) →
      codeAny (model prog w) A (.builtin "filter.__next__" ⟨[.ref f], []⟩) R s := by
  intro k
  induction k with
  | zero =>
    intro i s hk hi hit hF hR hE
    have hii : i = items.size := by omega
    refine codeAny_builtin filter_next_entry ?_
    rw [Around.under_plainId filter_next_plain _]
    unfold Builtin.«filter.__next__»
    refine wpAny_bind (wpAny_pure ?_)
    dsimp only
    refine wpAny_bind (wpAny_field hF.fl rfl (x := .ref m) rfl ?_)
    refine wpAny_bind (wpAny_field hF.fl rfl (x := .ref I) rfl ?_)
    refine wpAny_bind (li_end (by exact hh) hit hF.ls (by simp [hii]) fun h' e hx hT => ?_)
    exact hE (by rw [List.drop_eq_nil_of_le (by simp [hii])]; rfl) e h' s.toks (fun b o hb e' => hx b o hb e') (Nat.le_refl _) hT
  | succ k ih =>
    intro i s hk hi hit hF hR hE
    have hlt : i < items.size := by omega
    obtain ⟨x, t, hv⟩ := hstr i items[i] (by simp [hlt])
    have hxi : items[i]? = some (Value.str x t) := by simp [hlt, hv]
    have hdrop : items.toList.drop i = Value.str x t :: items.toList.drop (i + 1) := by
      rw [List.drop_eq_getElem_cons (by simpa using hlt)]
      simp [hv]
    refine codeAny_builtin filter_next_entry ?_
    rw [Around.under_plainId filter_next_plain _]
    unfold Builtin.«filter.__next__»
    refine wpAny_bind (wpAny_pure ?_)
    dsimp only
    refine wpAny_bind (wpAny_field hF.fl rfl (x := .ref m) rfl ?_)
    refine wpAny_bind (wpAny_field hF.fl rfl (x := .ref I) rfl ?_)
    refine wpAny_bind (li_item hit hF.ls hxi fun h' hit' hsb => ?_)
    dsimp only
    have hk' : ∀ b o, b ≠ I → s.heap.get? b = some o → h'.get? b = some o := fun b o hb e => hsb.extBut b o hb e
    have hF' := hF.at hI hk'
    refine wpAny_bind (wpAny_holding ?_)
    have n1 : ((Value.ref m == Value.none) || (Value.ref m == Value.type "bool")) = false := rfl
    simp only [n1, Bool.false_eq_true, if_false]
    refine wpAny_bind (sc_bound (s := { s with heap := h' }) hF'.bc hF'.st ?_)
    refine wpAny_holding (wpAny_truthy_bool ?_)
    by_cases hp : T x = true
    · simp only [hp, if_true]
      refine wpAny_pure ?_
      exact hR (.str x t) _ (i + 1) h' _ (by rw [hdrop, List.filter_cons_of_pos (by exact hp)]) rfl hlt hit' hk' (Nat.le_succ _)
    · simp only [hp, Bool.false_eq_true, if_false]
      have hfd : (items.toList.drop i).filter (kept T) = (items.toList.drop (i + 1)).filter (kept T) := by rw [hdrop, List.filter_cons_of_neg (by exact hp)]
      refine wpAny_pure ⟨plainId_quiet filter_next_plain _, ih (i + 1) { s with heap := h', toks := s.toks + 1 } (by omega) hlt hit' hF' (fun v rest i' h'' tk e1 e2 hi' hit'' hk'' htk => ?_) (fun e0 e h'' tk hk'' htk hT => ?_)⟩
      · exact hR v rest i' h'' tk (hfd ▸ e1) e2 hi' hit'' (fun b o hb e => hk'' b o hb (hk' b o hb e)) (Nat.le_trans (Nat.le_succ _) htk)
      · exact hE (hfd ▸ e0) e h'' tk (fun b o hb e => hk'' b o hb (hk' b o hb e)) (Nat.le_trans (Nat.le_succ _) htk) hT
end
end Mine

end

section
set_option maxRecDepth 100000
namespace Mine
open PySem PySem.W PySem.Calls PyProof.Rows
open Sem (wp)
section
variable {prog : Program} {w : World} {A : Around} {E : Value → Shared → Prop} {s : Shared}
theorem filter_next {f m I a ax : Addr} {T : Str → Bool} {n i : Nat} {items : Array Value} {Q : Option Value → Shared → Prop} (hh : A.handled = none) (hI : I ≠ f ∧ I ≠ m ∧ I ≠ a ∧ I ≠ ax)
    (hstr : ∀ (i : Nat) (v : Value), items[i]? = some v → ∃ x t, v = Value.str x t) (hi : i ≤ items.size) (hit : s.heap.IsListIter I ax i) (hF : FS prog w f m I a ax T n items s.heap)
    (hR : ∀ v rest i' h' tk, (items.toList.drop i).filter (kept T) = v :: rest → (items.toList.drop i').filter (kept T) = rest → i' ≤ items.size → h'.IsListIter I ax i' →
        (∀ b o, b ≠ I → s.heap.get? b = some o → h'.get? b = some o) → s.toks ≤ tk → Q (some v) { s with heap := h', toks := tk })
    (hE : (items.toList.drop i).filter (kept T) = [] → ∀ h' tk, (∀ b o, b ≠ I → s.heap.get? b = some o → h'.get? b = some o) → s.toks ≤ tk → Q none { s with heap := h', toks := tk }) :
    wpAny (model prog w) A (pyNext (.ref f)) Q E s := by
  have hT : s.TypeIs (.ref f) "filter" := ⟨_, hF.fl, rfl⟩
  unfold pyNext
  refine wpAny_bind (wpAny_attempt (wpAny_callSpecial?_slot (name := Str.ofString "__next__") hT slot_filter_next ?_))
  refine wpAny_call (codeAny_of_tree ?_)
  show wpAny _ A.in1 (do checkBuiltinCall "filter.__next__" ⟨[.ref f], []⟩; again (.builtin "filter.__next__" ⟨[.ref f], []⟩)) _ _ s
  refine wpAny_bind (slot_filter_next.check _ _ _ _ _ _ _ _ hT (filter_next_args _) (wpAny_pure ⟨plainId_quiet filter_next_plain _, ?_⟩))
  refine filter_code (n := n) hh hI hstr (items.size - i) i s rfl hi hit hF (fun v rest i' h' tk e1 e2 hi' hit' hk htk => ?_) (fun e0 e h' tk hk htk hTe => ?_)
  · exact wpAny_pure (hR v rest i' h' tk e1 e2 hi' hit' hk htk)
  · exact wpAny_bind (wpAny_isInstance (T := "StopIteration") (b := true) hTe isSubtype_stop (wpAny_pure (hE e0 h' tk hk htk)))
theorem filter_walks {f m I a ax : Addr} {T : Str → Bool} {n : Nat} {items : Array Value} (hh : A.handled = none) (hI : I ≠ f ∧ I ≠ m ∧ I ≠ a ∧ I ≠ ax)
    (hstr : ∀ (i : Nat) (v : Value), items[i]? = some v → ∃ x t, v = Value.str x t) :
    WalksS prog w A f [f, m, I, a, ax] [I] (fun a b => b = a) (items.toList.filter (kept T)).length
      (fun j v => (items.toList.filter (kept T))[j]? = some v)
      (fun j s => FS prog w f m I a ax T n items s.heap ∧ ∃ i, i ≤ items.size ∧ s.heap.IsListIter I ax i ∧ (items.toList.drop i).filter (kept T) = (items.toList.filter (kept T)).drop j) where
  sub := fun b hb => by simp at hb; simp [hb]
  grefl := fun _ => rfl
  gtrans := fun _ _ _ h1 h2 => h2.trans h1
  frame := fun j s h' tk hst _ hk => by
    obtain ⟨hF, i, hi, hit, hd⟩ := hst
    refine ⟨⟨hk f (by simp) _ hF.fl, hk m (by simp) _ hF.bc, ?_, hF.ls.at fun o e => hk ax (by simp) o e⟩, i, hi, hit.at fun o e => hk I (by simp) o e, hd⟩
    obtain ⟨o, es, ep, t, ho, rest⟩ := hF.st
    exact ⟨o, es, ep, t, hk a (by simp) _ ho, rest⟩
  item := fun j s Q E hj hst hQ => by
    obtain ⟨hF, i, hi, hit, hd⟩ := hst
    refine filter_next (n := n) hh hI hstr hi hit hF (fun v rest i' h' tk e1 e2 hi' hit' hk htk => ?_) (fun e0 h' tk hk htk => ?_)
    · rw [hd, List.drop_eq_getElem_cons hj] at e1
      injection e1 with e1 e1'
      refine hQ v _ (by rw [List.getElem?_eq_getElem hj, e1]) ⟨hF.at hI hk, i', hi', hit', by rw [e2, e1']⟩ ⟨fun b o hb e => hk b o (fun h => hb (by simp [h])) e, rfl, rfl, rfl, htk⟩
    · rw [hd, List.drop_eq_getElem_cons hj] at e0; cases e0
  done := fun s Q E hst hQ => by
    obtain ⟨hF, i, hi, hit, hd⟩ := hst
    refine filter_next (n := n) hh hI hstr hi hit hF (fun v rest i' h' tk e1 e2 hi' hit' hk htk => ?_) (fun e0 h' tk hk htk => ?_)
    · rw [hd, List.drop_length] at e1; cases e1
    · exact hQ _ ⟨fun b o hb e => hk b o (fun h => hb (by simp [h])) e, rfl, rfl, rfl, htk⟩
  self := fun j s Q E hst hQ => by
    obtain ⟨hF, _⟩ := hst
    have hT : s.TypeIs (.ref f) "filter" := ⟨_, hF.fl, rfl⟩
    refine wpAny_pyIter_slot hT slot_filter_iter (wpAny_call_entry slot_filter_iter hT filter_iter_entry ?_ (filter_iter_args _))
    show wpAny _ _ (ret (.ref f)) _ _ s
    exact wpAny_pure ⟨_, rfl, "filter", _, hT, slot_filter_next.lookup, hQ⟩
end
section
variable {prog : Program} {w : World} {A : Around} {s : Shared} {R : Result → Shared → Prop}
variable {I : Addr} {fp wr : List Addr} {G : Array GenState → Array GenState → Prop} {n : Nat} {P : Nat → Value → Prop} {St : Nat → Shared → Prop}
theorem extend_filter (W : WalksS prog w A.in1 I fp wr G n P St) (hT : ∀ i s, St i s → s.TypeIs (.ref I) "filter") (S : Addr) (res : Value) (c₀ : Nat) (hst : St 0 s) (hSf : S ∉ fp) (hI : I ∈ fp)
    (hS : s.heap.get? S = some { cls := .type "list", data := .seq #[] c₀ })
    (hR : ∀ s' acc' c', Moved (S :: wr) G s s' → s'.heap.get? S = some { cls := .type "list", dict := none, data := .seq acc' c', slots := #[] } → ItemsOf P acc' n → R (.ok (.ret res)) s') (hn : n ≤ sizeLine) :
    wpAny (model prog w) A.in1 (Builtin.List.listExtendWith (.ref S) (.ref I) res)
      (fun fin s' => match fin with | .done f => R (.ok f) s' | .again c' => c'.quiet = true ∧ codeAny (model prog w) A c' R s') (fun e s' => R (.error e) s') s := by
  have hSI : S ≠ I := fun e => hSf (e ▸ hI)
  unfold Builtin.List.listExtendWith
  refine wpAny_bind (wpAny_typeOf (hT 0 _ hst) ?_)
  have h1 : Builtin.List.listSameRef (.ref S) (.ref I) = false := by simp [Builtin.List.listSameRef, hSI]
  have h2 : (Value.type "filter" == Value.type "list") = false := by decide
  have h3 : (Value.type "filter" == Value.type "tuple") = false := by decide
  simp only [h1, h2, h3, Bool.or_false, Bool.false_eq_true, if_false]
  refine wpAny_bind (W.self 0 _ _ _ hst ?_)
  refine wpAny_bind (wpAny_holding ?_)
  unfold Builtin.List.listLengthHint
  refine wpAny_bind (wpAny_specialOf (hT 0 _ hst) filter_no_len ?_)
  show wpAny _ A.in1 (specialOf (Value.ref I) (Str.ofString "__length_hint__") >>= _) _ _ _
  refine wpAny_bind (wpAny_specialOf (hT 0 _ hst) filter_no_hint ?_)
  refine wpAny_pure ?_
  show wpAny _ A.in1 (rule "list.extend.makes-room" >>= fun _ => Builtin.List.listTouch (.ref S) >>= fun _ =>
    again (.builtin "list.extend.loop" ⟨[.ref S, .ref I, res], []⟩)) _ _ _
  refine wpAny_bind (wpAny_rule ?_)
  refine wpAny_bind ?_
  show wpAny _ A.in1 (updateSeq S (·.push .none) >>= fun _ => updateSeq S (·.pop)) _ _ _
  refine wpAny_bind (wpAny_updateSeq hS rfl ?_)
  have hS₂ := Heap.get?_update_self (Obj.mapSeq (·.push Value.none)) hS rfl
  refine wpAny_updateSeq (hz := by seq_fits) hS₂ rfl ?_
  have hS₃ := Heap.get?_update_self (Obj.mapSeq (·.pop)) hS₂ rfl
  have oth : ∀ b o, b ≠ S → s.heap.get? b = some o → ((s.heap.update S (Obj.mapSeq (·.push Value.none))).update S (Obj.mapSeq (·.pop))).get? b = some o :=
    fun b o hb e => (Heap.get?_update_other _ _ (Ne.symm hb)).trans ((Heap.get?_update_other _ _ (Ne.symm hb)).trans e)
  refine wpAny_pure ⟨plainId_quiet F.plain_extend_loop _, codeAny_extend_loopS W hn _ hSf _ n 0 _ _ _ rfl (Nat.zero_le _)
    (W.frame 0 s _ s.toks hst (Nat.le_refl _) fun b hb o e => oth b o (fun h => hSf (h ▸ hb)) e) hS₃ (ItemsOf.nil P) fun s' acc' c' hm hS' hacc => ?_⟩
  exact hR s' acc' c' (Moved.trans W.gtrans ((Moved.refl W.grefl).then_heap (Nat.le_refl _) fun b o hb e => oth b o (fun h => hb (h ▸ List.mem_cons_self)) e) hm) hS' hacc

theorem list_init_filter (W : WalksS prog w A.in1 I fp wr G n P St) (hT : ∀ i s, St i s → s.TypeIs (.ref I) "filter") (S : Addr) (hst : St 0 s) (hSf : S ∉ fp) (hI : I ∈ fp)
    (hS : s.heap.get? S = some { cls := .type "list", data := .seq #[] })
    (hR : ∀ s' acc' c', Moved (S :: wr) G s s' → s'.heap.get? S = some { cls := .type "list", dict := none, data := .seq acc' c', slots := #[] } → ItemsOf P acc' n → R (.ok (.ret .none)) s') (hn : n ≤ sizeLine) :
    wpAny (model prog w) A.in1 (Builtin.«list.__init__» ⟨[.ref S, .ref I], []⟩)
      (fun fin s' => match fin with | .done f => R (.ok f) s' | .again c' => c'.quiet = true ∧ codeAny (model prog w) A c' R s') (fun e s' => R (.error e) s') s := by
  show wpAny _ A.in1 (do let old ← Builtin.List.listItems (.ref S); Builtin.List.listUpdate (.ref S) (fun _ => #[]); letGo old.toList.reverse; Builtin.List.listExtendWith (.ref S) (.ref I) .none) _ _ s
  refine wpAny_bind ?_
  unfold Builtin.List.listItems
  refine wpAny_bind (wpAny_seqItems hS rfl (wpAny_pure ?_))
  show wpAny _ A.in1 (updateSeq S (fun _ => #[]) >>= fun _ => letGo (#[] : Array Value).toList.reverse >>= fun _ => Builtin.List.listExtendWith (.ref S) (.ref I) .none) _ _ s
  refine wpAny_bind (wpAny_updateSeq hS rfl ?_)
  have hS₂ := Heap.get?_update_self (Obj.mapSeq (fun _ => (#[] : Array Value))) hS rfl
  have oth : ∀ b o, b ≠ S → s.heap.get? b = some o → (s.heap.update S (Obj.mapSeq (fun _ => (#[] : Array Value)))).get? b = some o :=
    fun b o hb e => (Heap.get?_update_other _ _ (Ne.symm hb)).trans e
  refine wpAny_bind (wpAny_letGo ?_)
  refine extend_filter (hn := hn) W hT S .none _ (W.frame 0 s _ s.toks hst (Nat.le_refl _) fun b hb o e => oth b o (fun h => hSf (h ▸ hb)) e) hSf hI hS₂ fun s' acc' c' hm hS' hacc => ?_
  exact hR s' acc' c' (Moved.trans W.gtrans ((Moved.refl W.grefl).then_heap (Nat.le_refl _) fun b o hb e => oth b o (fun h => hb (h ▸ List.mem_cons_self)) e) hm) hS' hacc
end
section
variable {prog : Program} {w : World} {A : Around} {E : Value → Shared → Prop} {s : Shared}
theorem list_filter {f m I a ax : Addr} {T : Str → Bool} {n : Nat} {items : Array Value} {Q : Value → Shared → Prop} (hh : A.handled = none) (hI : I ≠ f ∧ I ≠ m ∧ I ≠ a ∧ I ≠ ax)
    (hstr : ∀ (i : Nat) (v : Value), items[i]? = some v → ∃ x t, v = Value.str x t) (hit : s.heap.IsListIter I ax 0) (hF : FS prog w f m I a ax T n items s.heap) (hb : items.size ≤ sizeLine)
    (hQ : ∀ h' tk c, (∀ b o, b ≠ I → s.heap.get? b = some o → h'.get? b = some o) → s.toks ≤ tk →
      h'.get? s.heap.objs.size = some { cls := .type "list", dict := none, data := .seq (items.filter (kept T)) c, slots := #[] } → Q (.ref s.heap.objs.size) { s with heap := h', toks := tk }) :
    wpAny (model prog w) A (call (.type "list") [.ref f]) Q E s := by
  have hfp : ∀ b ∈ [f, m, I, a, ax], b < s.heap.objs.size := by
    intro b hb
    simp at hb
    rcases hb with rfl | rfl | rfl | rfl | rfl
    · exact Heap.lt_size hF.fl
    · exact Heap.lt_size hF.bc
    · obtain ⟨o, ho, _⟩ := hit; exact Heap.lt_size ho
    · obtain ⟨o, es, ep, t, ho, rest⟩ := hF.st; exact Heap.lt_size ho
    · obtain ⟨o, ho, _⟩ := hF.ls; exact Heap.lt_size ho
  have hSf : s.heap.objs.size ∉ [f, m, I, a, ax] := fun hm => Nat.lt_irrefl _ (hfp _ hm)
  have W := filter_walks (prog := prog) (w := w) (A := A.in1.in1) (f := f) (m := m) (I := I) (a := a) (ax := ax) (T := T) (n := n) (items := items) (by simp [hh]) hI hstr
  have hn : (items.toList.filter (kept T)).length ≤ sizeLine := Nat.le_trans (List.length_filter_le ..) (by simpa using hb)
  refine callType_codes (Q₁ := fun obj s₁ => obj = .ref s.heap.objs.size ∧ s₁ = { s with heap := s.heap.push { cls := .type "list", data := .seq #[] } }) F.called_list (F.typeCall_list_1 _) F.entry_list_init
    (code_list_new _ ⟨rfl, rfl⟩) fun obj s₁ h₁ => ?_
  obtain ⟨rfl, rfl⟩ := h₁
  have hS : (s.heap.push { cls := .type "list", data := .seq #[] }).get? s.heap.objs.size = some { cls := .type "list", data := .seq #[] } := Heap.get?_push_size _ rfl
  refine ⟨⟨_, hS, rfl⟩, F.args_list_init_2 _ _, list_init_filter (hn := hn) W (fun i s h => ⟨_, h.1.fl, rfl⟩) _ (W.frame 0 s _ s.toks ⟨hF, 0, Nat.zero_le _, hit, rfl⟩ (Nat.le_refl _) fun b _ o e => Heap.get?_push_of_some _ e) hSf (by simp) hS fun s' acc' c' hm hS' hacc => ?_⟩
  refine ⟨rfl, ?_⟩
  obtain ⟨h', g', d', tk', os'⟩ := s'
  have eg : g' = s.gens := hm.gens
  have ed : d' = s.drawn := hm.drawn
  have eo : os' = s.os := hm.os
  subst eg; subst ed; subst eo
  have hacc' : acc' = items.filter (kept T) := by
    apply Array.ext'
    rw [Array.toList_filter]
    apply List.ext_getElem?
    intro j
    obtain ⟨hz, hj⟩ := hacc
    by_cases hlt : j < acc'.size
    · rw [hj j acc'[j] (by simp [hlt])]; simp [hlt]
    · rw [List.getElem?_eq_none (by simpa using hlt), List.getElem?_eq_none (by omega)]
  subst hacc'
  exact hQ h' tk' c' (fun b o hb e => hm.heap b o (by
    intro hmem
    rcases List.mem_cons.mp hmem with e' | hmem
    · exact absurd (Heap.lt_size e) (by rw [e']; exact Nat.lt_irrefl _)
    · exact hb (List.mem_singleton.mp hmem)) (Heap.get?_push_of_some _ e)) hm.toks hS'
end
end Mine

end

section
set_option maxRecDepth 100000
namespace Mine
open PySem PySem.W PySem.Calls PyProof.Rows
open Sem (wp)
theorem fr_up {h₀ h h' : Heap} {L : Addr} {m : Str → Option Value} (F : Fr h₀ L h m) (k : Hk h h') : Fr h₀ L h' m := ⟨F.ns.at' fun o e => k _ _ e, fun b o e => k _ _ (F.keep b o e), F.above⟩
theorem news_up {h₀ h h' : Heap} {L : Addr} {news : List (Addr × Obj)} (N : News h₀ L h news) (k : Hk h h') : News h₀ L h' news := fun p hp => ⟨k _ _ (N p hp).1, (N p hp).2⟩
theorem setOf_up {prog : Program} {w : World} {h h' : Heap} {a : Addr} {T : Str → Bool} {n : Nat} (x : h.SetOf (PySem.strKind prog w) a T n) (k : Hk h h') : h'.SetOf (PySem.strKind prog w) a T n := by
  obtain ⟨o, es, ep, t, ho, rest⟩ := x
  exact ⟨o, es, ep, t, k _ _ ho, rest⟩
section
variable {prog : Program} {w : World} {A : Around} {E : Value → Shared → Prop} {s : Shared} {env : Env}
/-- list(filter(set(e2.useragents).__contains__, e1.useragents)) -/
theorem merge_expr {h₀ : Heap} {m : Str → Option Value} {p1 p2 p3 p4 p5 p6 p7 p8 p9 p10 p11 : Pos} {x1 d1 l1 r1 x2 d2 l2 r2 : Addr} {items items2 : Array Value} {val : Nat → Str} {Q : Value → Shared → Prop}
    (B : Bs w h₀) (F : Fr h₀ env.locals s.heap m) (hA : A.handled = none) (e : EO env)
    (k1 : env.kindOf "list" = some .globalImplicit) (k2 : env.kindOf "filter" = some .globalImplicit) (k3 : env.kindOf "set" = some .globalImplicit)
    (k4 : env.kindOf "e1" = some .local) (k5 : env.kindOf "e2" = some .local) (m1 : m "e1" = some (.ref x1)) (m2 : m "e2" = some (.ref x2))
    (E1 : Ent w s.heap x1 d1 (.ref l1) (.ref r1)) (E2 : Ent w s.heap x2 d2 (.ref l2) (.ref r2)) (hl1 : s.heap.IsList l1 items) (hl2 : s.heap.IsList l2 items2)
    (hs1 : ∀ (i : Nat) (v : Value), items[i]? = some v → ∃ x t, v = Value.str x t) (hs2 : ∀ (i : Nat) (v : Value), items2[i]? = some v → ∃ t, v = Value.str (val i) t)
    (z1 : items.size ≤ 1000) (z2 : items2.size ≤ 1000)
    (h : ∀ la h' tk c, Hk s.heap h' → s.heap.get? la = none → h'.get? la = some { cls := .type "list", dict := none, data := .seq (items.filter (kept (metS val items2.size))) c, slots := #[] } → Q (.ref la) { s with heap := h', toks := tk }) :
    wpAny (model prog w) A (eval (.Call (.Name "list" p1) [.Call (.Name "filter" p2) [.Attribute (.Call (.Name "set" p3) [.Attribute (.Name "e2" p4) "useragents" p5] [] p6) "__contains__" p7, .Attribute (.Name "e1" p8) "useragents" p9] [] p10] [] p11) env) Q E s := by
  have Bs' := nmFn B F
  refine aCall1 rfl (nm_list Bs' e k1 ?_)
  refine aCall2 rfl (nm_filter Bs' e k2 ?_)
  refine Attribute_any_ ?_ rfl
  refine aCall1 rfl (nm_set Bs' e k3 ?_)
  refine Attribute_Name_ (nmF F e.hk k5 m2 (by decide) ?_) rfl
  refine ent_ua Bs' E2 rfl ⟨kp_type, ?_⟩
  refine set_strs (val := val) hA hl2 hs2 (Nat.lt_of_le_of_lt (Nat.succ_le_succ z2) (by unfold scanBound; omega)) fun g1 tk1 c hS hk1 => ?_
  have K1 : Hk s.heap g1 := fun b o q => hk1 b o (Heap.lt_size q) q
  obtain ⟨o, es, ep, tb, ho, hx, hd, rest⟩ := id hS
  obtain ⟨oc, od, odt, osl⟩ := o
  have q1 : oc = .type "set" := hx.1
  have q2 : od = none := hx.2.1
  have q3 : odt = .set es ep tb := hd
  subst q1; subst q2; subst q3
  refine sc_attr ho ?_
  have K2 : Hk g1 (g1.push { cls := .type "builtin_function_or_method", data := .fields #[.builtin "set.__contains__", .ref s.heap.objs.size] }) := fun b o q => Heap.get?_push_of_some _ q
  have K12 : Hk s.heap _ := fun b o q => K2 _ _ (K1 _ _ q)
  have hM : IsBC (g1.push { cls := .type "builtin_function_or_method", data := .fields #[.builtin "set.__contains__", .ref s.heap.objs.size] }) g1.objs.size s.heap.objs.size := Heap.get?_push_size _ rfl
  generalize (g1.push { cls := .type "builtin_function_or_method", data := .fields #[.builtin "set.__contains__", .ref s.heap.objs.size] }) = g2 at *
  generalize g1.objs.size = M at *
  refine Attribute_Name_ (nmF (fr_up F K12) e.hk k4 m1 (by decide) ?_) rfl
  refine ent_ua (Bs'.keeps K12) (E1.keeps K12) rfl ⟨kp_type, ?_⟩
  refine call_filter (hl1.at fun o q => K12 _ _ q) fun g3 hf hit hsz K3 => ⟨kp_type, ?_⟩
  have K13 : Hk s.heap g3 := fun b o q => K3 _ _ (K12 _ _ q)
  have lM : M < g2.objs.size := Heap.lt_size hM
  have lS : s.heap.objs.size < g2.objs.size := Heap.lt_size (K2 _ _ ho)
  have lL : l1 < g2.objs.size := by obtain ⟨o, q, _⟩ := hl1; exact Heap.lt_size (K12 _ _ q)
  have lX : ∀ b o, s.heap.get? b = some o → b < g2.objs.size := fun b o q => Heap.lt_size (K12 _ _ q)
  refine list_filter (n := c) (T := metS val items2.size) (a := s.heap.objs.size) (m := M) (I := g2.objs.size) (ax := l1) hA
    ⟨Nat.ne_of_lt (Nat.lt_succ_self _), Nat.ne_of_gt lM, Nat.ne_of_gt lS, Nat.ne_of_gt lL⟩ hs1 hit
    ⟨hf, K3 _ _ hM, setOf_up (setOf_up hS K2) K3, hl1.at fun o q => K13 _ _ q⟩ (Nat.le_trans z1 (by unfold sizeLine; omega)) fun g4 tk4 c4 K4 ht hla => ?_
  refine h _ g4 tk4 c4 (fun b o q => K4 b o (Nat.ne_of_lt (lX b o q)) (K13 _ _ q)) ?_ hla
  cases q : s.heap.get? g3.objs.size with
  | none => rfl
  | some o => exact absurd (Heap.lt_size (K13 _ _ q)) (Nat.lt_irrefl _)
end
end Mine

end

section
set_option maxRecDepth 100000
namespace Mine
open PySem PySem.W PySem.Calls PyProof.Rows
open Sem (wp)
theorem News.cons' {h₀ h : Heap} {L : Addr} {news : List (Addr × Obj)} {a : Addr} {o : Obj} (N : News h₀ L h news) (h1 : h.get? a = some o) (h2 : a ≠ L) (h3 : h₀.get? a = none) : News h₀ L h ((a, o) :: news) := fun p hp => by
  rcases List.mem_cons.mp hp with rfl | hp
  · exact ⟨h1, h2, h3⟩
  · exact N p hp
theorem merge_spec {prog : Program} {w : World} {A : Around} {s : Shared} {Q : Value → Shared → Prop} {E : Value → Shared → Prop} {x1 d1 l1 r1 x2 d2 l2 r2 : Addr} {items items2 : Array Value} {val : Nat → Str}
    (B : Bs w s.heap) (ok : OkA 4 A)
    (E1 : Ent w s.heap x1 d1 (.ref l1) (.ref r1)) (E2 : Ent w s.heap x2 d2 (.ref l2) (.ref r2)) (hl1 : s.heap.IsList l1 items) (hl2 : s.heap.IsList l2 items2)
    (hr1 : s.heap.IsList r1 #[]) (hr2 : s.heap.IsList r2 #[])
    (hs1 : ∀ (i : Nat) (v : Value), items[i]? = some v → ∃ x t, v = Value.str x t) (hs2 : ∀ (i : Nat) (v : Value), items2[i]? = some v → ∃ t, v = Value.str (val i) t)
    (z1 : items.size ≤ 1000) (z2 : items2.size ≤ 1000)
    (h : ∀ x dx la lb s', Keeps s s' → Ent w s'.heap x dx (.ref la) (.ref lb) → s'.heap.IsList la (items.filter (kept (metS val items2.size))) → s.heap.get? la = none → Q (.ref x) s') :
    wpAny (model prog w) A (call (.ref 77) [.ref x1, .ref x2]) Q E s := by
  refine enterA (f := 77) (binds := [("e1", .ref x1), ("e2", .ref x2)]) B ok.room rfl (by kernel_rfl) rfl rfl rfl rfl rfl rfl rfl ?_
  intro env s₁ he x
  have hk : env.scope.kind = .function := by rw [he]; rfl
  have e : EO env := ⟨hk, by rw [he]; rfl, by rw [he]; rfl⟩
  have k1 : env.kindOf "e1" = some .local := by rw [he]; rfl
  have k2 : env.kindOf "e2" = some .local := by rw [he]; rfl
  have k3 : env.kindOf "Entry" = some .globalImplicit := by rw [he]; rfl
  have k4 : env.kindOf "entry" = some .local := by rw [he]; rfl
  have k5 : env.kindOf "list" = some .globalImplicit := by rw [he]; rfl
  have k6 : env.kindOf "filter" = some .globalImplicit := by rw [he]; rfl
  have k7 : env.kindOf "set" = some .globalImplicit := by rw [he]; rfl
  simp only [bindL, bindC, k1, k2, if_true] at x
  have F := icFr x
  have hsame := x.toInCall.same
  clear he x
  refine wpAny_execs_cons (wpAny_Assign_Name ?_ (by rfl))
  rw [arm_eval_Call_Name']
  refine wpAny_bind (nm_Entry (nmFn B F) e k3 (callWith_K0 (nmFn B F).X (by kernel_rfl) ?_))
  refine entry_K B F (ok.deeper env) fun x dx la lb t1 t2 t3 t4 h' tk F' N' n1 n2 n3 => ?_
  refine stF F' N' hk k4 fun h₂ F₂ N₂ => ?_
  have K2 : Hk s.heap h₂ := F₂.keep
  have hA : (A.deeper env).handled = none := (ok.deeper env).hh
  refine wpAny_execs_cons (plainObj_wpAny_Assign_Attribute (merge_expr (prog := prog) (val := val) B F₂ hA e k5 k6 k7 k1 k2 rfl rfl (E1.keeps K2) (E2.keeps K2) (hl1.at fun o q => K2 _ _ q) (hl2.at fun o q => K2 _ _ q) hs1 hs2 z1 z2 fun lc g3 tk3 c K3 hnew hlc => ?_) (by rfl))
  have hlcx : ∀ b o, h₂.get? b = some o → lc ≠ b := fun b o q e' => by subst e'; rw [hnew] at q; cases q
  have hLh : ∃ o, h₂.get? env.locals = some o := let ⟨o, _, _, q, _⟩ := F₂.ns; ⟨o, q⟩
  have F₃ : Fr s.heap env.locals g3 _ := fr_up F₂ K3
  have N₃ : News s.heap env.locals g3 ((lc, { cls := .type "list", dict := none, data := .seq (items.filter (kept (metS val items2.size))) c, slots := #[] }) :: _) := News.cons' (news_up N₂ K3) hlc (let ⟨o, q⟩ := hLh; hlcx _ _ q) (by
    cases q : s.heap.get? lc with
    | none => rfl
    | some o => exact absurd rfl (hlcx _ _ (K2 _ _ q)))
  have hcd : lc ≠ dx := hlcx _ _ (N₂ _ (.tail _ (.head _))).1
  clear N₂ F₂
  refine nmF F₃ hk k4 rfl (by decide) ?_
  refine ent_set (es' := entD w.params t1 t2 t3 t4 (.ref lc) (.ref lb)) (n' := 4) B F₃ N₃ ⟨(N₃ _ (.tail _ (.head _))).1, rfl, rfl, (N₃ _ (.tail _ (.tail _ (.head _)))).1⟩ (by kernel_rfl) rfl rfl (.tail hcd (.tail n1 (.head ?_))) (Nat.le_of_ble_eq_true rfl) fun h₄ F₄ N₄ => ?_
  · intro p hp
    rcases List.mem_cons.mp hp with rfl | hp
    · exact n2
    · rw [List.mem_singleton.mp hp]; exact n3
  have K4 : Hk s.heap h₄ := F₄.keep
  -- rulelines
  refine wpAny_execs_cons (plainObj_wpAny_Assign_Attribute (wpAny_BinOp ?_) (by rfl))
  refine Attribute_Name_ (nmF F₄ hk k1 rfl (by decide) ?_) rfl
  refine ent_rl (nmFn B F₄) (E1.keeps K4) rfl ?_
  refine Attribute_Name_ (nmF F₄ hk k2 rfl (by decide) ?_) rfl
  refine ent_rl (nmFn B F₄) (E2.keeps K4) rfl ?_
  refine add_lists (vs := []) (ws := []) F₄ N₄ (hr1.at fun o q => K4 _ _ q) (hr2.at fun o q => K4 _ _ q) (fun h₅ F₅ N₅ => ?_) (Nat.zero_le _)
  refine nmF F₅ hk k4 rfl (by decide) ?_
  have hrd : h₄.objs.size ≠ dx := Nat.ne_of_gt (Heap.lt_size (N₄ _ (.tail _ (.tail _ (.head _)))).1)
  refine ent_set (es' := entD w.params t1 t2 t3 t4 (.ref lc) (.ref h₄.objs.size)) (n' := 4) B F₅ N₅ ⟨(N₅ _ (.tail _ (.tail _ (.head _)))).1, rfl, rfl, (N₅ _ (.tail _ (.tail _ (.tail _ (.head _))))).1⟩ (by kernel_rfl) rfl rfl (.tail hrd (.tail hcd (.tail n1 (.head ?_)))) (Nat.le_of_ble_eq_true rfl) fun h₆ F₆ N₆ => ?_
  · intro p hp
    rcases List.mem_cons.mp hp with rfl | hp
    · exact n2
    · rw [List.mem_singleton.mp hp]; exact n3
  have K6 : Hk s.heap h₆ := F₆.keep
  -- delay
  refine wpAny_execs_cons (plainObj_wpAny_Assign_Attribute (IfExp_ (wpAny_isTrue_Compare1 ?_)) (by rfl))
  refine Attribute_Name_ (nmF F₆ hk k2 rfl (by decide) ?_) rfl
  refine ent_dl (nmFn B F₆) (E2.keeps K6) ?_
  refine wpAny_Constant_none (wpAny_is_self rfl (wpAny_truthy_bool ?_))
  refine Attribute_Name_ (nmF F₆ hk k1 rfl (by decide) ?_) rfl
  refine ent_dl (nmFn B F₆) (E1.keeps K6) ?_
  refine nmF F₆ hk k4 rfl (by decide) ?_
  refine ent_set (es' := entD w.params t1 t2 t3 t4 (.ref lc) (.ref h₄.objs.size)) (n' := 4) B F₆ N₆ ⟨(N₆ _ (.tail _ (.tail _ (.head _)))).1, rfl, rfl, (N₆ _ (.tail _ (.tail _ (.tail _ (.head _))))).1⟩ (by kernel_rfl) rfl rfl (.tail hrd (.tail hcd (.tail n1 (.head ?_)))) (Nat.le_of_ble_eq_true rfl) fun h₇ F₇ N₇ => ?_
  · intro p hp
    rcases List.mem_cons.mp hp with rfl | hp
    · exact n2
    · rw [List.mem_singleton.mp hp]; exact n3
  have K7 : Hk s.heap h₇ := F₇.keep
  -- req_rate
  refine wpAny_execs_cons (plainObj_wpAny_Assign_Attribute (IfExp_ (wpAny_isTrue_Compare1 ?_)) (by rfl))
  refine Attribute_Name_ (nmF F₇ hk k2 rfl (by decide) ?_) rfl
  refine ent_rr (nmFn B F₇) (E2.keeps K7) ?_
  refine wpAny_Constant_none (wpAny_is_self rfl (wpAny_truthy_bool ?_))
  refine Attribute_Name_ (nmF F₇ hk k1 rfl (by decide) ?_) rfl
  refine ent_rr (nmFn B F₇) (E1.keeps K7) ?_
  refine nmF F₇ hk k4 rfl (by decide) ?_
  refine ent_set (es' := entD w.params t1 t2 t3 t4 (.ref lc) (.ref h₄.objs.size)) (n' := 4) B F₇ N₇ ⟨(N₇ _ (.tail _ (.tail _ (.head _)))).1, rfl, rfl, (N₇ _ (.tail _ (.tail _ (.tail _ (.head _))))).1⟩ (by kernel_rfl) rfl rfl (.tail hrd (.tail hcd (.tail n1 (.head ?_)))) (Nat.le_of_ble_eq_true rfl) fun h₈ F₈ N₈ => ?_
  · intro p hp
    rcases List.mem_cons.mp hp with rfl | hp
    · exact n2
    · rw [List.mem_singleton.mp hp]; exact n3
  refine wpAny_execs_cons (wpAny_Return_some (nmF F₈ hk k4 rfl (by decide) ?_))
  obtain ⟨hh, tk', rfl⟩ := hsame
  exact h x dx lc _ _ ⟨h₈, _, rfl, F₈.keep⟩ ⟨(N₈ _ (.tail _ (.tail _ (.head _)))).1, t1, t2, t3, t4, (N₈ _ (.tail _ (.tail _ (.tail _ (.head _))))).1⟩ ⟨_, (N₈ _ (.tail _ (.head _))).1, rfl, _, rfl⟩ (N₈ _ (.tail _ (.head _))).2.2
end Mine

end

section
set_option maxRecDepth 100000
namespace Mine
open PySem PySem.W PySem.Calls PyProof.Rows
open Sem (wp)
section
variable {prog : Program} {w : World} {A : Around} {E : Value → Shared → Prop} {s : Shared} {env : Env}
theorem wpN_standIf {α : Type} {M : Model} {c : Prop} [Decidable c] {pos : Pos} {k : PUnit → Sem α} {Q : α → Shared → Prop} (h : wpN M A (k ()) Q E s) :
    wpN M A (if c then (standAt pos >>= k) else k ()) Q E s := by
  split
  · exact wpN_bind (wpN_standAt h)
  · exact h
/-- the loop of a comprehension without tests, on the path; nothing raises -/
theorem nCompLoop {elt iter : Expr} {x : Str} {px : Pos} {scope : Scope} {pos : Pos} {I D : Addr} {fp wr : List Addr} {n : Nat} {P : Nat → Value → Prop} {St : Nat → Heap → Prop} {R : Result → Shared → Prop}
    {cenv : Env} {m : Str → Option Value} (W : Walks prog w A I fp wr n P St) (F : Value → Value → Prop)
    (hx : cenv.kindOf x = some .local) (hp : (cenv.scope.kind == .class || (cenv.scope.kind == .module && cenv.locals != cenv.globals)) = false)
    (hDC : D ≠ cenv.locals) (hDf : D ∉ fp) (hCf : cenv.locals ∉ fp)
    (hst : St 0 s.heap) (hacc : s.heap.PlainList D #[]) (hn : s.heap.Ns cenv.locals m)
    (helt : ∀ i v s₂ m₂, P i v → s₂.heap.Ns cenv.locals m₂ → m₂ x = some v → (∀ b o, b ≠ cenv.locals → b ∉ wr → b ≠ D → s.heap.get? b = some o → s₂.heap.get? b = some o) →
      wpN (model prog w) A (eval elt cenv) (fun y s₃ => F v y ∧ Keeps s₂ s₃) (fun _ _ => False) s₂)
    (hR : ∀ h' tk m' ys (vs : List Value), h'.Ns cenv.locals m' → h'.IsList D ys → h'.PlainList D ys → vs.length = n → (∀ j v, vs[j]? = some v → P j v) → Paired F vs ys.toList →
      (∀ b o, b ≠ cenv.locals → b ∉ wr → b ≠ D → s.heap.get? b = some o → h'.get? b = some o) → R (.ok .next) { s with heap := h', toks := tk })
    (hsz : n ≤ sizeLine) :
    codeN (model prog w) A (.compLoop (.ListComp elt [⟨.Name x px, iter, [], 0⟩] scope pos) 0 (.ref I) (.ref D) cenv) R s := by
  refine codeN_loop rfl rfl
    (fun k s' => ∃ h' tk m' ys, ∃ vs : List Value, s' = { s with heap := h', toks := tk } ∧ St vs.length h' ∧ h'.PlainList D ys ∧ h'.Ns cenv.locals m' ∧ (∀ j v, vs[j]? = some v → P j v) ∧
      Paired F vs ys.toList ∧ vs.length ≤ n ∧ k = n + 1 - vs.length ∧
      (∀ b o, b ≠ cenv.locals → b ∉ wr → b ≠ D → s.heap.get? b = some o → h'.get? b = some o)) ?_ (n + 1)
    ⟨s.heap, s.toks, m, #[], [], rfl, hst, hacc, hn, by simp, by simpa using Paired.nil, Nat.zero_le _, rfl, fun _ _ _ _ _ e => e⟩
  rintro k s' ⟨H, tk, m', ys, vs, rfl, hst', hacc', hn', hP, hF, hi, rfl, hk⟩
  have hCw : cenv.locals ∉ wr := fun h => hCf (W.sub _ h)
  have hDw : D ∉ wr := fun h => hDf (W.sub _ h)
  show wpN _ _ ((compTurn (.ListComp elt [⟨.Name x px, iter, [], 0⟩] scope pos) 0 (.ref I) (.ref D) cenv).onRaise (fun x => do noteFrame x cenv; theTreesLotGoes x)) _ _ _
  refine wpN_onRaise (wpN_mono (E := fun _ _ => False) ?_ (fun _ _ q => q) fun _ _ q => q.elim)
  rw [compTurn_list1]
  refine wpN_bind (wpN_standAt ?_)
  by_cases hlt : vs.length < n
  · refine wpN_leaf (W.item vs.length _ _ _ hlt hst' fun v h₁ tk₁ hPv hst₁ hk₁ => ?_)
    refine wpN_bind (wpN_eq rfl ?_)
    refine wpN_leaf (wpAny_assign_Name (wpAny_storeName_local hx (hn'.at' fun o e => hk₁ _ o hCw e) (fun h₂ hn₂ hs₂ => ?_) hp))
    have up₂ : ∀ b o, b ≠ cenv.locals → b ∉ wr → H.get? b = some o → h₂.get? b = some o := fun b o hbC hbf e => hs₂.extBut b o hbC (hk₁ b o hbf e)
    have hst₂ : St (vs.length + 1) h₂ := W.frame _ _ _ hst₁ fun b hb o e => hs₂.extBut b o (fun h => hCf (h ▸ hb)) e
    refine wpN_bind (wpN_bind (wpN_mono (helt vs.length v _ _ hPv hn₂ (by simp) (fun b o hbC hbf hbD e => up₂ b o hbC hbf (hk b o hbC hbf hbD e))) (fun y s₄ h₄ => ?_) fun _ _ e => e))
    obtain ⟨hFy, h₄, tk₄, rfl, hk₄⟩ := h₄
    have hacc₄ : h₄.PlainList D ys := hacc'.at fun o e => hk₄ _ o (up₂ D o hDC hDw e)
    have hys : ys.size ≤ sizeLine := by
      have e1 := hF.length
      have e4 : ys.toList.length = ys.size := by simp
      omega
    refine wpN_leaf (wpAny_list_append_plain (hsz := hys) hacc₄ fun h₅ hl₅ hs₅ => ?_)
    refine wpN_pure (wpN_pure ⟨rfl, ?_⟩)
    have hP' : ∀ j u, (vs ++ [v])[j]? = some u → P j u := fun j u hj => by
      rcases Nat.lt_trichotomy j vs.length with h | h | h
      · exact hP j u (by rwa [List.getElem?_append_left h] at hj)
      · subst h; simp at hj; subst hj; exact hPv
      · have hnone : (vs ++ [v])[j]? = none := List.getElem?_eq_none (by rw [List.length_append, List.length_singleton]; omega)
        rw [hnone] at hj; cases hj
    refine ⟨n + 1 - (vs.length + 1), by omega, h₅, tk₄, _, ys.push y, vs ++ [v], rfl, ?_, hl₅, (hn₂.keeps hk₄).sameBut hs₅ (Ne.symm hDC), hP', ?_, (by rw [List.length_append, List.length_singleton]; exact hlt), (by rw [List.length_append, List.length_singleton]),
      fun b o hbC hbf hbD e => hs₅.extBut b o hbD (hk₄ b o (up₂ b o hbC hbf (hk b o hbC hbf hbD e)))⟩
    · have := W.frame _ _ h₅ hst₂ fun b hb o e => hs₅.extBut b o (fun h => hDf (h ▸ hb)) (hk₄ b o e)
      simpa using this
    · rw [Array.toList_push]
      exact hF.snoc hFy
  · have hnn : vs.length = n := by omega
    refine wpN_leaf (W.done _ _ _ (hnn ▸ hst') fun h' tk' hk₁ => ?_)
    refine wpN_pure ?_
    have hacc₁ : h'.PlainList D ys := hacc'.at fun o e => hk₁ _ o hDw e
    exact hR h' tk' m' ys vs (hn'.at' fun o e => hk₁ _ o hCw e) hacc₁.isList hacc₁ hnn hP hF fun b o h1 h2 h3 e => hk₁ b o h2 (hk b o h1 h2 h3 e)
theorem nCompStart {elt target iter ifs rest scope pos it acc} {cenv : Env} {R : Result → Shared → Prop}
    (h0 : codeN (model prog w) A (.compLoop (.ListComp elt (⟨target, iter, ifs, 0⟩ :: rest) scope pos) 0 it acc cenv) R s)
    (h : wpAny (model prog w) A (pyIter it) (fun it' s' => codeN (model prog w) A (.compLoop (.ListComp elt (⟨target, iter, ifs, 0⟩ :: rest) scope pos) 0 it' acc cenv) R s') (fun _ _ => False) s) :
    codeN (model prog w) A (.compStart (.ListComp elt (⟨target, iter, ifs, 0⟩ :: rest) scope pos) 0 it acc cenv) R s := by
  refine codeN_of_tree rfl ?_
  show wpN _ _ ((compStart (.ListComp elt (⟨target, iter, ifs, 0⟩ :: rest) scope pos) 0 it acc cenv).onRaise (fun x => do noteFrame x cenv; standAt theWindowsPlace)) _ _ s
  refine wpN_onRaise (wpN_mono (E := fun _ _ => False) ?_ (fun _ _ q => q) fun _ _ q => q.elim)
  unfold compStart
  show wpN _ _ (ask >>= _) _ _ s
  refine wpN_leaf (wpAny_askSetting ?_)
  split
  · first
      | exact wpN_bind (wpN_pure (wpN_pure (And.intro rfl h0)))
      | exact wpN_pure (And.intro rfl h0)
  · first
      | exact wpN_bind (wpN_rule (wpN_bind (wpN_standAt (wpN_leaf (wpAny_mono h (fun it' s' h' => wpN_pure (And.intro rfl h')) fun _ _ x => x)))))
      | (refine wpN_bind (wpN_rule ?_); show wpN _ _ (standAt iter.pos >>= _) _ _ s; exact wpN_bind (wpN_standAt (wpN_leaf (wpAny_mono h (fun it' s' h' => wpN_pure (And.intro rfl h')) fun _ _ x => x))))
/-- y = [elt for x in iter] on the path -/
theorem nAsgComp {elt iter : Expr} {x y : Str} {px py : Pos} {scope : Scope} {cl : List (Str × Addr)} {pos spos : Pos} {Q : Flow → Shared → Prop} {s₀ : Shared} {cm : Str → Option Value} (F : Value → Value → Prop)
    (hsw : swapsWith (.ListComp elt [⟨.Name x px, iter, [], 0⟩] scope pos) (some (.Name y py)) spos.line env = pure true)
    (hclos : closureFor scope env = pure cl) (hcell : ∀ z ∈ scope.names, z.2 ≠ .cell) (hkind : scope.kind = .function)
    (hnames : ∀ z ∈ scope.names, z.2 = .local → scope.names.lookup z.1 = some .local) (hx : scope.names.lookup x = some .local)
    (hy : env.kindOf y = some .local) (hp : (env.scope.kind == .class || (env.scope.kind == .module && env.locals != env.globals)) = false) (hs : ∀ x, foldedSetIterable iter env x = pure x)
    (h : wpAny (model prog w) A (eval iter env) (fun xv s₁ => ∃ n P m, n ≤ sizeLine ∧ Src prog w A xv n P s₁ ∧ InCallC s₀ env.locals m env.cells cm s₁ ∧
      (∀ C i v s₃ m₃, P i v → s₃.heap.Ns C m₃ → m₃ x = some v → Hk s₁.heap s₃.heap → wpN (model prog w) A (eval elt (compEnvC scope cl C env)) (fun y s₄ => F v y ∧ Keeps s₃ s₄) (fun _ _ => False) s₃) ∧
      ∀ D s' ys (vs : List Value), InCallC s₀ env.locals (fun z => if z = y then some (.ref D) else m z) env.cells cm s' → (∀ b o, b ≠ env.locals → s₁.heap.get? b = some o → s'.heap.get? b = some o) → s₁.heap.get? D = none → D ≠ env.locals → s'.heap.IsList D ys → vs.length = n → (∀ j v, vs[j]? = some v → P j v) → Paired F vs ys.toList → Q .next s') E s) :
    wpN (model prog w) A (exec (.Assign [.Name y py] (.ListComp elt [⟨.Name x px, iter, [], 0⟩] scope pos) spos) env) Q E s := by
  rw [exec_Assign_Name_used _ _ _ _ hsw]
  refine wpN_bind (wpN_standAt (wpN_bind ?_))
  show wpN _ A (do let _ ← comprehension (.ListComp elt [⟨.Name x px, iter, [], 0⟩] scope pos) scope env _ (newList []) false (eval iter env) (some (assign (.Name y py) env))) _ _ s
  refine wpN_bind ?_
  unfold comprehension
  rw [hclos]
  refine wpN_leaf (wpAny_mono h (fun xv s₁ h₁ => ?_) fun _ _ e => e)
  obtain ⟨n, P, m, hsz, hsrc, X, helt, hQ⟩ := h₁
  refine wpN_bind (wpN_standAt ?_)
  refine wpN_bind (wpN_eq (hs xv) ?_)
  refine wpN_bind (wpN_holding (wpN_of (hsrc _ _ fun I fp wr St h₂ W hst hfp hwr hk => ?_)))
  refine wpN_standIf ?_
  refine wpN_leaf (wpAny_newObj_type (wpN_bind (wpN_pure (wpN_leaf (wpAny_newFunctionEnv hcell (by intro y hy; simp at hy) (fun h₃ hns₁ hsb₁ => ?_) hkind)))))
  dsimp only at hns₁ hsb₁ ⊢
  generalize hH2 : h₂.push { cls := .type "list", dict := none, data := .seq ([] : List Value).toArray } = H2 at hns₁ hsb₁ ⊢
  have hC : H2.objs.size = h₂.objs.size + 1 := by rw [← hH2, Heap.size_push]
  have hDC : h₂.objs.size ≠ H2.objs.size := by rw [hC]; exact Nat.ne_of_lt (Nat.lt_succ_self _)
  have below : ∀ b, b < h₂.objs.size → b ≠ H2.objs.size ∧ b ≠ h₂.objs.size := fun b hb => ⟨by rw [hC]; exact Nat.ne_of_lt (Nat.lt_succ_of_lt hb), Nat.ne_of_lt hb⟩
  have hDf : h₂.objs.size ∉ fp := fun hm => Nat.lt_irrefl _ (hfp _ hm)
  have hCf : H2.objs.size ∉ fp := fun hm => by have := hfp _ hm; rw [hC] at this; exact Nat.lt_irrefl _ (Nat.lt_of_succ_lt this)
  have old : ∀ b o, h₂.get? b = some o → h₃.get? b = some o := fun b o e => hsb₁.extBut b o (below b (Heap.lt_size e)).1 (Heap.get?_push_of_some _ (hH2 ▸ Heap.get?_push_of_some _ e))
  have hacc : h₃.PlainList h₂.objs.size #[] := ⟨_, hsb₁.extBut _ _ hDC (Heap.get?_push_of_some _ (hH2 ▸ Heap.get?_push_size _ rfl))⟩
  have hst₁ : St 0 h₃ := W.frame _ _ _ hst fun b _ o e => old b o e
  have hD2 : h₂.get? h₂.objs.size = none := fresh_none (Nat.le_refl _)
  have hC2 : h₂.get? H2.objs.size = none := fresh_none (by rw [hC]; exact Nat.le_succ _)
  have hv : ∀ x ∈ (scope.names.filter fun x => (x.2 == .local || x.2 == .cell) && x.1 != (".0" : Str)).reverse, x.2 = .local →
      Env.kindOf (compEnvC scope cl H2.objs.size env) x.1 = some .local := fun x hx hl => lookup_relabel_local (hnames x (List.mem_filter.mp (List.mem_reverse.mp hx)).1 hl)
  have hv' : ∀ x ∈ (scope.names.filter fun x => (x.2 == .local || x.2 == .cell) && x.1 != (".0" : Str)).reverse.drop 1 ++ (scope.names.filter fun x => (x.2 == .local || x.2 == .cell) && x.1 != (".0" : Str)).reverse.take 1,
      x.2 = .local → Env.kindOf (compEnvC scope cl H2.objs.size env) x.1 = some .local := fun x hx hl => by
    rcases List.mem_append.mp hx with h1 | h1
    · exact hv x (List.mem_of_mem_drop h1) hl
    · exact hv x (List.mem_of_mem_take h1) hl
  have nw : ∀ b o, s₁.heap.get? b = some o → b ∉ wr := fun b o e hb => by rw [hwr b hb] at e; cases e
  have loop : ∀ s₄ : Shared, s₄ = { s₁ with heap := h₃, toks := s₁.toks + ([] : List (Str × Value)).length } → codeN (model prog w) A (.compLoop (.ListComp elt [⟨.Name x px, iter, [], 0⟩] scope pos) 0 (.ref I) (.ref h₂.objs.size) (compEnvC scope cl H2.objs.size env))
      (fun r s' => ∃ h' tk m' ys, ∃ vs : List Value, r = .ok .next ∧ s' = { s₁ with heap := h', toks := tk } ∧ h'.Ns H2.objs.size m' ∧ h'.IsList h₂.objs.size ys ∧ vs.length = n ∧ (∀ j v, vs[j]? = some v → P j v) ∧ Paired F vs ys.toList ∧
        (∀ b o, b ∉ wr → h₂.get? b = some o → h'.get? b = some o)) s₄ := by
    rintro s₄ rfl
    refine nCompLoop (cenv := compEnvC scope cl H2.objs.size env) W F (lookup_relabel_local hx) (by simp [compEnvC, relabel, hkind]) hDC hDf hCf hst₁ hacc hns₁
      (fun i v s₃ m₃ hv hn hm hk' => helt _ i v s₃ m₃ hv hn hm fun b o e => hk' b o (below b (Heap.lt_size (hk _ _ e))).1 (nw b o e) (below b (Heap.lt_size (hk _ _ e))).2 (old b o (hk _ _ e)))
      (fun h' tk m' ys vs hn ha hpl hlen hP hF hk' => ⟨h', tk, m', ys, vs, rfl, rfl, hn, ha, hlen, hP, hF, fun b o hb e => hk' b o (below b (Heap.lt_size e)).1 hb (below b (Heap.lt_size e)).2 (old b o e)⟩) hsz
  have start := nCompStart (loop _ rfl) (W.self 0 _ _ _ hst₁ (loop _ rfl))
  refine wpN_holding (wpN_bind (wpN_attempt (wpN_holding (wpN_run (codeN_mono start fun r s' hr => ?_)))))
  obtain ⟨h', tk, m', ys, vs, rfl, rfl, hnC, hlD, hlen, hP, hF, hk'⟩ := hr
  have hL : ∃ o, s₁.heap.get? env.locals = some o := let ⟨o, _, _, q, _⟩ := X.toInCall.ns; ⟨o, q⟩
  obtain ⟨oL, hoL⟩ := hL
  have hLlt := Heap.lt_size (hk _ _ hoL)
  have hLC : env.locals ≠ H2.objs.size := (below _ hLlt).1
  have hLD : env.locals ≠ h₂.objs.size := (below _ hLlt).2
  have hup : ∀ b o, s₁.heap.get? b = some o → h'.get? b = some o := fun b o e => hk' b o (nw b o e) (hk b o e)
  refine wpN_bind (wpN_rule (wpN_bind (wpN_holding (wpN_of (wpAny_assign_Name (wpAny_storeName_local hy (X.toInCall.ns.at' fun o e => hup _ o e) (fun h₅ hn₅ hs₅ => ?_) hp))))))
  refine wpN_leaf (wpAny_comp_letGo (cenv := compEnvC scope cl H2.objs.size env) hkind _ _ m' hv' (hnC.sameBut hs₅ (Ne.symm hLC)) fun h₆ m₆ _ hs₆ => ?_)
  have up : ∀ b o, b ≠ env.locals → s₁.heap.get? b = some o → h₆.get? b = some o := fun b o hb e => hs₆.extBut b o (below b (Heap.lt_size (hk _ _ e))).1 (hs₅.extBut b o hb (hup b o e))
  refine wpN_pure (wpN_pure (wpN_pure ?_))
  refine hQ h₂.objs.size _ ys vs ⟨⟨?_, hn₅.sameBut hs₆ hLC, fun b o e => ?_, X.toInCall.fresh⟩, fun k c hc' => ?_, X.apart, X.above⟩ up ?_ (Ne.symm hLD) ((hlD.extBut hs₅.extBut (Ne.symm hLD)).extBut hs₆.extBut hDC) hlen hP hF
  · obtain ⟨h₁, tk₁, rfl⟩ := X.toInCall.same; exact ⟨_, _, rfl⟩
  · exact up b o (Nat.ne_of_lt (Nat.lt_of_lt_of_le (Heap.lt_size e) X.toInCall.fresh)) (X.toInCall.keep b o e)
  · obtain ⟨o, ho, hd⟩ := X.cell k c hc'
    exact ⟨o, up c o (Nat.ne_of_gt (X.above k c (mem_of_lookup hc'))) ho, hd⟩
  · cases e : s₁.heap.get? h₂.objs.size with
    | none => rfl
    | some o => rw [hk _ _ e] at hD2; cases hD2
end
end Mine

end

section
set_option maxRecDepth 100000
namespace Mine
open PySem PySem.W PySem.Calls PyProof.Rows
open Sem (wp)

theorem tx_to {l : List Nat} {k : Nat} (h : k ≤ l.length) : Txt.slice (S l) none (some (k : Int)) = S (l.take k) := by
  have := beq_iff_eq.mp (slice_closes_to (x := S l) (j := k) ⟨by omega, by simpa using h⟩)
  rw [this]; simp
theorem tx_from {l : List Nat} {k : Nat} (h : k ≤ l.length) : Txt.slice (S l) (some (k : Int)) none = S (l.drop k) := by
  have := beq_iff_eq.mp (slice_closes_from (x := S l) (i := k) ⟨by omega, by simpa using h⟩)
  rw [this]
  simp
  exact List.take_of_length_le (by simp)
theorem tx_both {l : List Nat} {a b : Nat} (h1 : a ≤ b) (h2 : b ≤ l.length) : Txt.slice (S l) (some (a : Int)) (some (b : Int)) = S ((l.drop a).take (b - a)) := by
  have := beq_iff_eq.mp (slice_closes (x := S l) (i := a) (j := b) ⟨by omega, by omega, by simpa using h2⟩)
  rw [this]
  simp
  try (congr 1; omega)
theorem range_down (n : Nat) : sliceRange ((n : Int) - 1) (-1) (-1) = (List.range n).map fun k => n - 1 - k := by
  unfold sliceRange
  have h1 : ¬ ((-1 : Int) > 0) := by decide
  simp only [h1, if_false]
  cases n with
  | zero => simp
  | succ m =>
    have h2 : (((m + 1 : Nat) : Int) - 1) > -1 := by omega
    simp only [h2, if_true]
    have h3 : ((((m + 1 : Nat) : Int) - 1 - -1 - -1 - 1) / - -1).toNat = m + 1 := by
      rw [show (((m + 1 : Nat) : Int) - 1 - -1 - -1 - 1) = (m + 1 : Nat) by omega]
      simp
    rw [h3]
    apply List.map_congr_left
    intro k hk
    have := List.mem_range.mp hk
    omega
theorem pick_down {α : Type} (l : List α) : ((List.range l.length).map fun k => l.length - 1 - k).filterMap (l[·]?) = l.reverse := by
  apply List.ext_getElem?
  intro i
  have e : ((List.range l.length).map fun k => l.length - 1 - k).filterMap (l[·]?) = ((List.range l.length).pmap (fun k hk => l[l.length - 1 - k]'hk) (fun k hk => by have := List.mem_range.mp hk; omega)) := by
    rw [List.filterMap_map]
    have : ∀ (r : List Nat) (hr : ∀ k ∈ r, l.length - 1 - k < l.length), r.filterMap (fun k => l[l.length - 1 - k]?) = r.pmap (fun k hk => l[l.length - 1 - k]'hk) hr := by
      intro r
      induction r with
      | nil => intro _; rfl
      | cons a r ih =>
        intro hr
        rw [List.filterMap_cons, List.getElem?_eq_getElem (hr a (.head _)), List.pmap_cons, ih fun k hk => hr k (.tail _ hk)]
    exact this _ _
  rw [e]
  by_cases hi : i < l.length
  · rw [List.getElem?_pmap]
    simp [hi, List.getElem?_reverse]
  · rw [List.getElem?_eq_none (by simp; omega), List.getElem?_eq_none (by simp; omega)]
theorem tx_rev {l : List Nat} {u : Tok} : Txt.sliceBy (S l) none none (-1, u) = S l.reverse := by
  unfold Txt.sliceBy slicePicked
  have h0 : ((Option.map (fun x : Int × Tok => x.fst) (some ((-1 : Int), u))).getD 1 == 1) = false := rfl
  simp only [h0, Bool.false_and, Bool.false_eq_true, if_false]
  have e : Builtin.Str.strSliceIndices (Option.map (fun x : Int × Tok => x.fst) none) (Option.map (fun x : Int × Tok => x.fst) none) ((Option.map (fun x : Int × Tok => x.fst) (some ((-1 : Int), u))).getD 1) (S l).length = sliceRange (((S l).length : Int) - 1) (-1) (-1) := rfl
  rw [e]
  have hl : (S l).length = l.length := by simp [Str.length]
  rw [hl, range_down]
  have := pick_down l
  simp only [List.getElem?_toArray]
  rw [this]
theorem lp_rev {items : Array Value} : slicePick items none none (some (-1)) = items.reverse := by
  unfold slicePick
  have e : sliceBounds none none (some (-1)) items.size = ((items.size : Int) - 1, -1, -1) := rfl
  rw [e, range_down]
  have := pick_down items.toList
  simp only [Array.length_toList, Array.getElem?_toList] at this
  rw [this]
  apply Array.ext'
  simp

theorem ltg_str {value : Expr} {x : Str} {t : Tok} {r : Value} : letTemporaryGo value (.str x t) r = pure () := by
  unfold letTemporaryGo
  cases value <;> rfl
theorem hkH {h₀ : Heap} : KeptH (fun h => Hk h₀ h) := fun _ _ k b o e => Heap.get?_push_of_some _ (k b o e)
section
variable {prog : Program} {w : World} {A : Around} {E : Value → Shared → Prop} {s : Shared} {env : Env} {Q : Value → Shared → Prop} {value lo hi : Expr} {p pos p1 p2 : Pos}
theorem part_none {M : Model} {Q : Value → Shared → Prop} (h : Q .none s) : wpAny M A (evalPart none env) Q E s := wpAny_pure h
theorem part_some {M : Model} {e : Expr} {Q : Value → Shared → Prop} (h : wpAny M A (eval e env) Q E s) : wpAny M A (evalPart (some e) env) Q E s := h
/-- value[:hi] -/
theorem sub_to (h : wpAny (model prog w) A (eval value env) (fun o s₁ => ∃ l t, o = .str (S l) t ∧ l.length ≤ 1000 ∧ wpAny (model prog w) A (eval hi env) (fun v s₂ => ∃ (k : Nat) (u : Tok), v = .int (k : Int) u ∧ k ≤ l.length ∧ ∀ t' s', Keeps s₂ s' → Q (.str (S (l.take k)) t') s') E s₁) E s) :
    wpAny (model prog w) A (eval (.Subscript value (.Slice none (some hi) none p) pos) env) Q E s := by
  refine Subscript_ (wpAny_mono h (fun o s₁ h₁ => ?_) fun _ _ q => q)
  obtain ⟨l, t, rfl, hz, h₂⟩ := h₁
  refine wpAny_Slice (part_none (part_some (wpAny_mono h₂ (fun v s₂ h₃ => part_none ?_) fun _ _ q => q)))
  obtain ⟨k, u, rfl, hk, hq⟩ := h₃
  refine tail_of_ItemOn (SBH.sliceItem_ns (hkH (h₀ := s₂.heap)) (fun _ _ e => e) (fun h' t' k' hh => ?_) (by rw [sizeLine_eq]; simp [Str.length]; omega)) rfl (fun r => ltg_str)
  rw [tx_to hk]
  exact hq _ _ ⟨h', k', rfl, hh⟩
/-- value[lo:] -/
theorem sub_from (h : wpAny (model prog w) A (eval value env) (fun o s₁ => ∃ l t, o = .str (S l) t ∧ l.length ≤ 1000 ∧ wpAny (model prog w) A (eval lo env) (fun v s₂ => ∃ (k : Nat) (u : Tok), v = .int (k : Int) u ∧ k ≤ l.length ∧ ∀ t' s', Keeps s₂ s' → Q (.str (S (l.drop k)) t') s') E s₁) E s) :
    wpAny (model prog w) A (eval (.Subscript value (.Slice (some lo) none none p) pos) env) Q E s := by
  refine Subscript_ (wpAny_mono h (fun o s₁ h₁ => ?_) fun _ _ q => q)
  obtain ⟨l, t, rfl, hz, h₂⟩ := h₁
  refine wpAny_Slice (part_some (wpAny_mono h₂ (fun v s₂ h₃ => part_none (part_none ?_)) fun _ _ q => q))
  obtain ⟨k, u, rfl, hk, hq⟩ := h₃
  refine tail_of_ItemOn (SBH.sliceItem_sn (hkH (h₀ := s₂.heap)) (fun _ _ e => e) (fun h' t' k' hh => ?_) (by rw [sizeLine_eq]; simp [Str.length]; omega)) rfl (fun r => ltg_str)
  rw [tx_from hk]
  exact hq _ _ ⟨h', k', rfl, hh⟩
/-- value[lo:hi] -/
theorem sub_both (h : wpAny (model prog w) A (eval value env) (fun o s₁ => ∃ l t, o = .str (S l) t ∧ l.length ≤ 1000 ∧ wpAny (model prog w) A (eval lo env) (fun v s₂ => ∃ (a : Nat) (u : Tok), v = .int (a : Int) u ∧ wpAny (model prog w) A (eval hi env) (fun v' s₃ => ∃ (b : Nat) (u' : Tok), v' = .int (b : Int) u' ∧ a ≤ b ∧ b ≤ l.length ∧ ∀ t' s', Keeps s₃ s' → Q (.str (S ((l.drop a).take (b - a))) t') s') E s₂) E s₁) E s) :
    wpAny (model prog w) A (eval (.Subscript value (.Slice (some lo) (some hi) none p) pos) env) Q E s := by
  refine Subscript_ (wpAny_mono h (fun o s₁ h₁ => ?_) fun _ _ q => q)
  obtain ⟨l, t, rfl, hz, h₂⟩ := h₁
  refine wpAny_Slice (part_some (wpAny_mono h₂ (fun v s₂ h₃ => ?_) fun _ _ q => q))
  obtain ⟨a, u, rfl, h₄⟩ := h₃
  refine part_some (wpAny_mono h₄ (fun v s₃ h₅ => part_none ?_) fun _ _ q => q)
  obtain ⟨b, u', rfl, hab, hb, hq⟩ := h₅
  refine tail_of_ItemOn (SBH.sliceItem_ss (hkH (h₀ := s₃.heap)) (fun _ _ e => e) (fun h' t' k' hh => ?_) (by rw [sizeLine_eq]; simp [Str.length]; omega)) rfl (fun r => ltg_str)
  rw [tx_both hab hb]
  exact hq _ _ ⟨h', k', rfl, hh⟩
/-- value[::-1] of a text -/
theorem sub_rev {c : Nat} (h : wpAny (model prog w) A (eval value env) (fun o s₁ => ∃ l t, o = .str (S l) t ∧ l.length ≤ 1000 ∧ ∀ t' s', Keeps s₁ s' → Q (.str (S l.reverse) t') s') E s) :
    wpAny (model prog w) A (eval (.Subscript value (.Slice none none (some (.UnaryOp .USub (.Constant (.int 1) c p1) p2)) p) pos) env) Q E s := by
  refine Subscript_ (wpAny_mono h (fun o s₁ h₁ => ?_) fun _ _ q => q)
  obtain ⟨l, t, rfl, hz, hq⟩ := h₁
  refine wpAny_Slice (part_none (part_none (part_some (UnaryOp_ (wpAny_Constant_int (neg_int ?_))))))
  refine tail_of_ItemOn (ops := [.str (S l) t, .ref s₁.heap.objs.size]) ⟨"str", _, F.slot_str_getitem.lookup, typeIs_str _ _ _, wpAny_getItem_str_slice (l := none) (u := none) (st := some (-1, s₁.toks + 1)) ⟨_, Heap.get?_push_size _ rfl, rfl, rfl⟩ rfl
    (post_val_or_str ⟨Nat.le_trans (Txt.sliceBy_le (S l) none none (-1, s₁.toks + 1) (show (-1 : Int) ≠ 0 by decide)) (by rw [sizeLine_eq]; simp [Str.length]; omega), fun t' c => ?_⟩)⟩ rfl (fun r => ltg_str)
  have e := tx_rev (l := l) (u := s₁.toks + 1)
  show Q (.str (Txt.sliceBy (S l) none none (-1, s₁.toks + 1)) t') _
  rw [e]
  exact hq _ _ ⟨_, c, rfl, fun _ _ q => Heap.get?_push_of_some _ q⟩
end
end Mine

end

section
set_option maxRecDepth 100000
namespace Mine
open PySem PySem.W PySem.Calls PyProof.Rows
open Sem (wp)

/-! data -/
def dS (l : List Nat) : PyData := .str (S l)
def dL (ls : List (List Nat)) : PyData := .list (ls.map dS)
def dLL (x : List (List (List Nat))) : PyData := .list (x.map dL)
def Low (l : List Nat) : Prop := ∀ c ∈ l, c < 256
theorem S_beq (a b : List Nat) : (S a == S b) = decide (a = b) := by
  rw [Bool.eq_iff_iff, beq_iff_eq, decide_eq_true_iff]
  constructor
  · intro h
    have := congrArg (fun x : Str => x.cps.toList) h
    simpa using this
  · rintro rfl; rfl
theorem eqv_S (a b : List Nat) : PyData.eqv (dS a) (dS b) = decide (a = b) := by
  show PyData.eqv (.str (S a)) (.str (S b)) = _
  simp only [PyData.eqv]
  exact S_beq a b
theorem eqvAll_map {α : Type} [DecidableEq α] (d : α → PyData) (hd : ∀ a b, PyData.eqv (d a) (d b) = decide (a = b)) : ∀ x y : List α, PyData.eqvAll (x.map d) (y.map d) = decide (x = y)
  | [], [] => by simp [PyData.eqvAll]
  | [], _ :: _ => by simp [PyData.eqvAll]
  | _ :: _, [] => by simp [PyData.eqvAll]
  | a :: r, b :: t => by
    simp only [List.map_cons, PyData.eqvAll, hd, eqvAll_map d hd r t]
    by_cases h : a = b <;> by_cases h' : r = t <;> simp [h, h']
theorem eqv_L (a b : List (List Nat)) : PyData.eqv (dL a) (dL b) = decide (a = b) := by
  show PyData.eqv (.list (a.map dS)) (.list (b.map dS)) = _
  simp only [PyData.eqv]
  exact eqvAll_map dS eqv_S a b
theorem eqv_LL (a b : List (List (List Nat))) : PyData.eqv (dLL a) (dLL b) = decide (a = b) := by
  show PyData.eqv (.list (a.map dL)) (.list (b.map dL)) = _
  simp only [PyData.eqv]
  exact eqvAll_map dL eqv_L a b
theorem canLay_S {l : List Nat} (h : Low l) : (dS l).canLay0 = true := by
  show PyData.canLay0 (.str (S l)) = true
  simp only [PyData.canLay0, PyData.strOk]
  simp only [List.all_toArray, List.all_eq_true, decide_eq_true_eq]
  intro c hc
  have := h c hc
  omega
theorem canLayAll_map {α : Type} (d : α → PyData) : ∀ {x : List α}, (∀ a ∈ x, (d a).canLay0 = true) → PyData.canLayAll0 (x.map d) = true
  | [], _ => by simp [PyData.canLayAll0]
  | a :: r, h => by
    simp only [List.map_cons, PyData.canLayAll0, h a (.head _), canLayAll_map d (x := r) fun b hb => h b (.tail _ hb), Bool.and_self]
theorem canLay_L {ls : List (List Nat)} (h : ∀ l ∈ ls, Low l) : (dL ls).canLay0 = true := by
  show PyData.canLay0 (.list (ls.map dS)) = true
  simp only [PyData.canLay0]
  exact canLayAll_map dS fun a ha => canLay_S (h a ha)
theorem canLay_LL {x : List (List (List Nat))} (h : ∀ ls ∈ x, ∀ l ∈ ls, Low l) : (dLL x).canLay0 = true := by
  show PyData.canLay0 (.list (x.map dL)) = true
  simp only [PyData.canLay0]
  exact canLayAll_map dL fun a ha => canLay_L (h a ha)
theorem depthAll_map {α : Type} (d : α → PyData) (n : Nat) : ∀ {x : List α}, (∀ a ∈ x, (d a).depth ≤ n) → PyData.depthAll (x.map d) ≤ n
  | [], _ => by simp [PyData.depthAll]
  | a :: r, h => by
    simp only [List.map_cons, PyData.depthAll]
    exact Nat.max_le.mpr ⟨h a (.head _), depthAll_map d n (x := r) fun b hb => h b (.tail _ hb)⟩
theorem depth_S (l : List Nat) : (dS l).depth ≤ 1 := by
  show PyData.depth (.str (S l)) ≤ 1
  simp [PyData.depth]
theorem depth_L (ls : List (List Nat)) : (dL ls).depth ≤ 2 := by
  show PyData.depth (.list (ls.map dS)) ≤ 2
  have := depthAll_map dS 1 (x := ls) fun a _ => depth_S a
  simp only [PyData.depth]
  omega
theorem depth_LL (x : List (List (List Nat))) : (dLL x).depth ≤ 3 := by
  show PyData.depth (.list (x.map dL)) ≤ 3
  have := depthAll_map dL 2 (x := x) fun a _ => depth_L a
  simp only [PyData.depth]
  omega
theorem shaped_L {ls : List (List Nat)} (h : ∀ l ∈ ls, Low l) : SeqAt.shaped (dL ls) = true := by
  have := depth_L ls
  simp only [SeqAt.shaped, canLay_L h, Bool.true_and, decide_eq_true_eq]; omega
theorem shaped_LL {x : List (List (List Nat))} (h : ∀ ls ∈ x, ∀ l ∈ ls, Low l) : SeqAt.shaped (dLL x) = true := by
  have := depth_LL x
  simp only [SeqAt.shaped, canLay_LL h, Bool.true_and, decide_eq_true_eq]; omega
/-- v is a list of the texts ls -/
def RdL (h : Heap) (v : Value) (ls : List (List Nat)) : Prop := ∃ as, Reads h v (dL ls) as
def RdLL (h : Heap) (v : Value) (x : List (List (List Nat))) : Prop := ∃ as, Reads h v (dLL x) as
theorem RdL.keeps {h h' : Heap} {v : Value} {ls : List (List Nat)} (r : RdL h v ls) (k : Hk h h') : RdL h' v ls := let ⟨as, x⟩ := r; ⟨as, Reads.keeps k x⟩
theorem RdLL.keeps {h h' : Heap} {v : Value} {ls : List (List (List Nat))} (r : RdLL h v ls) (k : Hk h h') : RdLL h' v ls := let ⟨as, x⟩ := r; ⟨as, Reads.keeps k x⟩
theorem readsAll_of {h : Heap} {α : Type} (d : α → PyData) : ∀ {vs : List Value} {x : List α}, Paired (fun a v => ∃ as, Reads h v (d a) as) x vs → ∃ as, ReadsAll h vs (x.map d) as
  | _, _, .nil => ⟨_, .nil⟩
  | _, _, .cons ⟨_, r⟩ p => let ⟨_, q⟩ := readsAll_of d p; ⟨_, .cons r q⟩
theorem rd_of {h : Heap} {α : Type} (d : α → PyData) {D : Addr} {ys : Array Value} {x : List α} (hl : h.IsList D ys) (p : Paired (fun a v => ∃ as, Reads h v (d a) as) x ys.toList) : ∃ as, Reads h (.ref D) (.list (x.map d)) as := by
  obtain ⟨o, ho, hc, n, hd⟩ := hl
  obtain ⟨as, q⟩ := readsAll_of d p
  exact ⟨_, reads_list_at ho hc hd q⟩
theorem of_readsAll {h : Heap} {α : Type} (d : α → PyData) : ∀ {vs : List Value} {x : List α} {as : List Addr}, ReadsAll h vs (x.map d) as → Paired (fun a v => ∃ as, Reads h v (d a) as) x vs
  | _, [], _, .nil => .nil
  | _, _ :: _, _, .cons r q => .cons ⟨_, r⟩ (of_readsAll d q)
theorem of_rd {h : Heap} {α : Type} (d : α → PyData) {v : Value} {x : List α} {as : List Addr} (r : Reads h v (.list (x.map d)) as) : ∃ D ys, v = .ref D ∧ h.IsList D ys ∧ Paired (fun a v => ∃ as, Reads h v (d a) as) x ys.toList := by
  obtain ⟨a, vs, bs, e, hl, hr, _⟩ := isList_of_reads r
  exact ⟨a, vs, e, hl, of_readsAll d hr⟩
theorem rdS {h : Heap} {v : Value} {l : List Nat} : (∃ as, Reads h v (dS l) as) ↔ StrV l v := by
  constructor
  · rintro ⟨as, r⟩
    have r' : Reads h v (.str (S l)) as := r
    cases r' with
    | str x t => exact ⟨_, rfl⟩
  · rintro ⟨t, rfl⟩
    exact ⟨_, Reads.str _ _⟩
/-- from a comprehension -/
theorem paired_of {α : Type} {F : Value → Value → Prop} {G : α → Value → Prop} {R : α → Value → Prop} : ∀ {xs : List α} {vs ys : List Value}, Paired R xs vs → Paired F vs ys → (∀ a v y, a ∈ xs → R a v → F v y → G a y) → Paired G xs ys
  | _, _, _, .nil, .nil, _ => .nil
  | _, _, _, .cons r p, .cons f q, h => .cons (h _ _ _ (.head _) r f) (paired_of p q fun a v y ha => h a v y (.tail _ ha))
theorem paired_idx {α : Type} {R : α → Value → Prop} : ∀ {xs : List α} {vs : List Value}, vs.length = xs.length → (∀ (j : Nat) v, vs[j]? = some v → ∃ a, xs[j]? = some a ∧ R a v) → Paired R xs vs
  | [], vs, hl, _ => by
    have : vs = [] := List.length_eq_zero_iff.mp hl
    subst this; exact .nil
  | a :: xs, v :: vs, hl, h => by
    obtain ⟨a', e, r⟩ := h 0 v rfl
    obtain rfl : a = a' := by simpa using e
    refine .cons r (paired_idx (by simpa using hl) fun j v' hv => ?_)
    obtain ⟨a', e, r⟩ := h (j + 1) v' (by simpa using hv)
    exact ⟨a', by simpa using e, r⟩
theorem paired_filter {α : Type} {R : α → Value → Prop} {p : Value → Bool} {q : α → Bool} : ∀ {xs : List α} {vs : List Value}, Paired R xs vs → (∀ a v, R a v → p v = q a) → Paired R (xs.filter q) (vs.filter p)
  | _, _, .nil, _ => .nil
  | a :: xs, v :: vs, .cons r t, h => by
    have e := h a v r
    rw [List.filter_cons, List.filter_cons, e]
    cases q a with
    | true => exact .cons r (paired_filter t h)
    | false => exact paired_filter t h
theorem paired_get {α : Type} {R : α → Value → Prop} : ∀ {xs : List α} {vs : List Value}, Paired R xs vs → ∀ (j : Nat) v, vs[j]? = some v → ∃ a, xs[j]? = some a ∧ R a v
  | _, _, .nil, j, v, e => by simp at e
  | _, _, .cons r t, 0, v, e => by simp at e; subst e; exact ⟨_, rfl, r⟩
  | _, _, .cons r t, j + 1, v, e => by
    obtain ⟨a, h1, h2⟩ := paired_get t j v (by simpa using e)
    exact ⟨a, by simpa using h1, h2⟩
theorem Paired.len {α : Type} {R : α → Value → Prop} : ∀ {xs : List α} {vs : List Value}, Paired R xs vs → vs.length = xs.length
  | _, _, .nil => rfl
  | _, _, .cons _ t => by simp [Paired.len t]

section
variable {M : Model} {A : Around} {E : Value → Shared → Prop} {s : Shared} {env : Env} {n : Str} {pos : Pos} {v : Value} {Q : Value → Shared → Prop}
/-- a captured name in a comprehension -/
theorem nmC {scope : Scope} {cl : List (Str × Addr)} {C c : Addr} (hk : scope.kind = .function) (hl : (compEnvC scope cl C env).kindOf n = some .cell) (hc : cl.lookup n = some c) (hv : s.heap.IsCell c (some v)) (hd : (n == ("__debug__" : Str)) = false) (h : Q v s) :
    wpAny M A (eval (.Name n pos) (compEnvC scope cl C env)) Q E s := wpAny_Name (wpAny_loadName_cell (env := compEnvC scope cl C env) hk hl hc hv h) hd
theorem tests_one {c : Expr} {Q : Bool → Shared → Prop} (h : wpAny M A (isTrue c env (eval c env)) Q E s) : wpAny M A (testsOf [c] env) Q E s := by
  unfold testsOf
  rw [List.forIn_cons]
  simp only [if_true]
  refine wpAny_bind (wpAny_bind (wpAny_mono h (fun b s' h' => wpAny_pure ?_) fun _ _ q => q))
  show wpAny M A (forIn [] b _) Q E s'
  rw [List.forIn_nil]
  exact wpAny_pure h'
end

/-! ranges -/
theorem range_dn (n : Nat) : Builtin.Range.rangeSize n 1 (-1) = ((n - 1 : Nat) : Int) := by
  unfold Builtin.Range.rangeSize
  rw [if_neg (by decide)]
  split
  · rw [show (- -1 : Int) = 1 by decide, Int.ediv_one]; omega
  · omega
theorem fits_of {a : Int} (h1 : -5000 ≤ a) (h2 : a ≤ 5000) : Builtin.Range.rangeFitsLong a = true := by
  simp only [Builtin.Range.rangeFitsLong, Bool.and_eq_true, decide_eq_true_eq]
  omega
theorem small_of {a b c : Int} {n : Nat} (hs : Builtin.Range.rangeSize a b c = (n : Int)) (a1 : -1000 ≤ a) (a2 : a ≤ 1000) (b1 : -2000 ≤ b) (b2 : b ≤ 2000) (c1 : -1000 ≤ c) (c2 : c ≤ 1000) (hn : n ≤ 2000) : Builtin.Range.small a b c = true := by
  unfold Builtin.Range.small
  rw [hs, fits_of (by omega) (by omega), fits_of (by omega) (by omega), fits_of (by omega) (by omega), fits_of (by omega) (by omega)]
  split
  · rw [fits_of (by omega) (by omega)]; simp
  · rw [fits_of (by omega) (by omega)]; simp
theorem small_dn (n : Nat) (h : n ≤ 1000) : Builtin.Range.small n 1 (-1) = true := small_of (range_dn n) (by omega) (by omega) (by omega) (by omega) (by omega) (by omega) (by omega)
theorem range_ev (n : Nat) : Builtin.Range.rangeSize 2 ((n : Int) + 1) 2 = ((n / 2 : Nat) : Int) := by
  unfold Builtin.Range.rangeSize
  rw [if_pos (by decide)]
  split <;> omega
theorem small_ev (n : Nat) (h : n ≤ 1000) : Builtin.Range.small 2 ((n : Int) + 1) 2 = true := small_of (range_ev n) (by omega) (by omega) (by omega) (by omega) (by omega) (by omega) (by omega)
end Mine

end

section
set_option maxRecDepth 100000
namespace Mine
open PySem PySem.W PySem.Calls PyProof.Rows
open Sem (wp)
theorem Walks.bd {prog : Program} {w : World} {A : Around} {I : Addr} {fp wr : List Addr} {n : Nat} {P : Nat → Value → Prop} {St : Nat → Heap → Prop} (W : Walks prog w A I fp wr n P St) : Walks prog w A I fp wr n (fun i v => i < n ∧ P i v) St where
  sub := W.sub
  frame := W.frame
  item := fun i s Q E hi st hQ => W.item i s Q E hi st fun v h' tk hP => hQ v h' tk ⟨hi, hP⟩
  done := W.done
  self := W.self
theorem Src.bd {prog : Program} {w : World} {A : Around} {xv : Value} {n : Nat} {P : Nat → Value → Prop} {s : Shared} (x : Src prog w A xv n P s) : Src prog w A xv n (fun i v => i < n ∧ P i v) s :=
  fun Q E h => x Q E fun I fp wr St h₂ W => h I fp wr St h₂ (Walks.bd W)

theorem paired_mapF {α β : Type} {R : β → Value → Prop} {f : α → β} : ∀ {xs : List α} {vs : List Value}, Paired (fun a v => R (f a) v) xs vs → Paired R (xs.map f) vs
  | _, _, .nil => .nil
  | _, _, .cons r t => .cons r (paired_mapF t)
def IntV (k : Nat) (v : Value) : Prop := ∃ t, v = .int (k : Int) t
def mirP (l : List Nat) (v : Value) : Bool := match v with | .int k _ => k.toNat % 2 == 0 && pal (l.take k.toNat) | _ => false
theorem fmod2 (k : Nat) : ((k : Int).fmod 2 == 0) = (k % 2 == 0) := by
  rw [Int.fmod_eq_emod_of_nonneg _ (by decide)]
  rw [Bool.eq_iff_iff, beq_iff_eq, beq_iff_eq]
  omega
theorem mirrors_spec {prog : Program} {w : World} {A : Around} {s : Shared} {Q : Value → Shared → Prop} {E : Value → Shared → Prop} {l : List Nat} {t : Tok} (B : Bs w s.heap) (ok : OkA 1 A) (h1 : l.length ≤ 1000)
    (h : ∀ D s' its, Keeps s s' → s.heap.get? D = none → s'.heap.IsList D its → Paired StrV (mirrors l) its.toList → Q (.ref D) s') :
    wpAny (model prog w) A (call (.ref 104) [.str (S l) t]) Q E s := by
  refine enterA (f := 104) (binds := [("text", .str (S l) t)]) B ok.room rfl (by kernel_rfl) rfl rfl rfl rfl rfl rfl rfl ?_
  intro env s₁ he x
  have hk : env.scope.kind = .function := by rw [he]; rfl
  have e : EO env := ⟨hk, by rw [he]; rfl, by rw [he]; rfl⟩
  have k1 : env.kindOf "text" = some .cell := by rw [he]; rfl
  have k2 : env.kindOf "range" = some .globalImplicit := by rw [he]; rfl
  have k3 : env.kindOf "len" = some .globalImplicit := by rw [he]; rfl
  have hc : env.cells.lookup (Str.ofString "text") = some (s.heap.objs.size + 1) := by rw [he]; rfl
  simp only [bindL, bindC, k1, Option.some.injEq, reduceCtorEq, if_false] at x
  have hh : (A.deeper env).handled = none := ok.hh
  have B₁ := B.keeps (icKeep x)
  have hcell : s₁.heap.IsCell (s.heap.objs.size + 1) (some (.str (S l) t)) := x.cell "text" _ hc
  refine wpAny_execs_cons (wpAny_Return_some (compE (cl := [(Str.ofString "text", s.heap.objs.size + 1)]) (mirP l) (fun v y => ∀ k : Nat, IntV k v → StrV (l.take k) y) (by rw [he]; rfl) (by decide) rfl (by decide) rfl (by intro _; rfl) ?_))
  refine aCall3 rfl (nm_range B₁ e k2 (aCall1 rfl (nm_len B₁ e k3 (NameCC x hk k1 hc rfl ⟨kp_builtin, PyProof.Rows.len_str (by simp [Str.length]; omega) ?_⟩ (by decide)))))
  refine wpAny_Constant_int (UnaryOp_ (wpAny_Constant_int (PyProof.Rows.neg_int ⟨kp_type, call_range_3 (by decide) ?_ (Or.inl (PyProof.noPylong_small (by simp)))⟩)))
  have hl : ((S l).length : Int) = (l.length : Int) := by simp [Str.length]
  rw [hl]
  refine ⟨l.length - 1, _, ?_, Src.bd (src_range hh (IsRange.new _ _ _ _ _ _ _) (small_dn _ h1) (range_dn _)), ?_, ?_⟩
  · rw [sizeLine_eq]; omega
  · have hsz : ∀ i v, (i < l.length - 1 ∧ ∃ t, v = Value.int ((l.length : Int) + (i : Int) * -1) t) → ∃ k : Nat, ∃ u, v = .int (k : Int) u ∧ 2 ≤ k ∧ k ≤ l.length := by
      rintro i v ⟨hi, u, rfl⟩
      exact ⟨l.length - i, u, by congr 1; omega, by omega, by omega⟩
    refine ⟨fun C i v s₃ m₃ E' hP hn hm hk' => ?_, fun C i v s₃ m₃ E' hP _ hn hm hk' => ?_⟩
    · obtain ⟨k, u, rfl, hk2, hkl⟩ := hsz i v hP
      have hc3 : s₃.heap.IsCell (s.heap.objs.size + 1) (some (.str (S l) t)) := hcell.keeps fun b o q => hk' b o (Heap.get?_push_of_some _ q)
      refine tests_one (isTrue_and (wpAny_isTrue_Compare1 (wpAny_BinOp (nmK rfl rfl hn hm (by decide) (wpAny_Constant_int (mod_int' (by decide) (wpAny_Constant_int (PyProof.Rows.eq_int (wpAny_truthy_bool ?_)))))))))
      rw [fmod2]
      have hm1 : mirP l (.int (k : Int) u) = (k % 2 == 0 && pal (l.take k)) := by simp [mirP]
      rw [hm1]
      cases hb : k % 2 == 0 with
      | false => exact ⟨by simp, kTok _⟩
      | true =>
        simp only [if_true, Bool.true_and]
        refine isTrue_and (wpAny_isTrue_Compare1 (sub_to (nmC rfl (by rw [he]; rfl) rfl hc3 (by decide) ⟨l, t, rfl, h1, nmK rfl rfl hn hm (by decide) ⟨k, u, rfl, hkl, fun t' s₄ K4 => ?_⟩⟩)))
        have K34 : Keeps s₃ s₄ := kTrans (kTok _) K4
        refine sub_rev (sub_to (nmC rfl (by rw [he]; rfl) rfl (hc3.keeps (kHk K34)) (by decide) ⟨l, t, rfl, h1, nmK rfl rfl (hn.keeps (kHk K34)) hm (by decide) ⟨k, u, rfl, hkl, fun t5 s₅ K5 => ⟨l.take k, t5, rfl, by simp; omega, fun t6 s₆ K6 => ?_⟩⟩⟩))
        refine PyProof.Rows.eq_str (wpAny_truthy_bool ?_)
        have K36 := kTrans K34 (kTrans K5 K6)
        rw [S_beq]
        have hp : decide (l.take k = (l.take k).reverse) = pal (l.take k) := by
          rw [Bool.eq_iff_iff, decide_eq_true_iff, pal_iff]
        rw [hp]
        cases pal (l.take k) with
        | false => exact ⟨rfl, K36⟩
        | true => exact isTrue_and_nil ⟨rfl, K36⟩
    · obtain ⟨k, u, rfl, hk2, hkl⟩ := hsz i v hP
      have hc3 : s₃.heap.IsCell (s.heap.objs.size + 1) (some (.str (S l) t)) := hcell.keeps fun b o q => hk' b o (Heap.get?_push_of_some _ q)
      refine sub_to (nmC rfl (by rw [he]; rfl) rfl hc3 (by decide) ⟨l, t, rfl, h1, nmK rfl rfl hn hm (by decide) ⟨k, u, rfl, hkl, fun t' s₄ K4 => ⟨?_, K4⟩⟩⟩)
      rintro k' ⟨u', e'⟩
      have : (k : Int) = (k' : Int) := by injection e'
      have : k = k' := by omega
      subst this
      exact ⟨_, rfl⟩
  · intro D s' ys vs K hD hl' hlen hP hF
    refine h D s' ys (kTrans (icKeeps x) (kTrans (kPush _ _) K)) ?_ hl' ?_
    · cases q : s.heap.get? D with
      | none => rfl
      | some o => exact nomatch (hD.symm.trans (Heap.get?_push_of_some _ (icKeep x _ _ q)))
    have hp : Paired IntV (sizesDown l.length) vs := paired_idx (by rw [hlen]; simp [sizesDown]) fun j v hv => by
      obtain ⟨hi, u, rfl⟩ := hP j v hv
      refine ⟨l.length - j, ?_, u, by congr 1; omega⟩
      simp [sizesDown, hi]
    have hq := paired_filter (p := mirP l) (q := fun k => k % 2 == 0 && pal (l.take k)) hp (by
      rintro k v ⟨u, rfl⟩
      simp [mirP])
    have := paired_of (G := fun k y => StrV (l.take k) y) hq hF fun k v y _ hr hf => hf k hr
    unfold mirrors
    exact paired_mapF this
end Mine

end

section
set_option maxRecDepth 100000
namespace Mine
open PySem PySem.W PySem.Calls PyProof.Rows
open Sem (wp)
theorem src_rangeR {prog : Program} {w : World} {A : Around} {s : Shared} {Q : Value → Shared → Prop} {E : Value → Shared → Prop} (hh : A.handled = none) {r : Addr} {a b c : Int} {t u v : Tok} {n : Nat} (hr : IsRange s.heap r a b c t u v) (hs : Builtin.Range.small a b c = true) (hn : Builtin.Range.rangeSize a b c = ((n : Nat) : Int))
    (h : ∀ St h₂, Walks prog w A s.heap.objs.size [s.heap.objs.size] [s.heap.objs.size] n (fun i v => ∃ t, v = .int (a + i * c) t) St → St 0 h₂ → Hk s.heap h₂ → (∃ o, h₂.get? s.heap.objs.size = some o) → Q (.ref s.heap.objs.size) { s with heap := h₂ }) :
    wpAny (model prog w) A (pyIter (.ref r)) Q E s := by
  refine wpAny_pyIter_range hr hs (h _ _ (Walks.range hh s.heap.objs.size a c n) ?_ (push_hk _) ⟨_, Heap.get?_push_size _ rfl⟩)
  show IsRangeIter _ _ _ _ _
  rw [hn]
  simpa using Heap.get?_push_size _ rfl

section
variable {M : Model} {A : Around} {E : Value → Shared → Prop} {s : Shared} {env : Env} {Q : Value → Shared → Prop}
theorem list0 {pos : Pos} (h : Q (.ref s.heap.objs.size) { s with heap := s.heap.push { cls := .type "list", data := .seq #[] } }) : wpAny M A (eval (.List [] pos) env) Q E s :=
  List_ (spliced_nil (wpAny_newList h))
theorem list1 {pos : Pos} {e : Expr} (hs : backTo pos (starEach [e] env) = [(false, eval e env)])
    (h : wpAny M A (eval e env) (fun v s₁ => Q (.ref s₁.heap.objs.size) { s₁ with heap := s₁.heap.push { cls := .type "list", data := .seq #[v] } }) E s) : wpAny M A (eval (.List [e] pos) env) Q E s := by
  refine List_ ?_
  rw [hs]
  exact spliced_cons (wpAny_mono h (fun v s₁ h₁ => spliced_nil (wpAny_newList h₁)) fun _ _ q => q)
end
/-! the laid ends -/
def laidTo (l : List Nat) (i : Nat) : List Nat := ((evens l.length).take i).foldl (fun ends e => if cutsAt l e ends then ends ++ [e] else ends) [0]
theorem laidTo_zero (l : List Nat) : laidTo l 0 = [0] := by simp [laidTo]
theorem laidTo_succ {l : List Nat} {i : Nat} (h : i < l.length / 2) : laidTo l (i + 1) = if cutsAt l (2 * (i + 1)) (laidTo l i) then laidTo l i ++ [2 * (i + 1)] else laidTo l i := by
  unfold laidTo
  have he : (evens l.length).take (i + 1) = (evens l.length).take i ++ [2 * (i + 1)] := by
    rw [List.take_add_one]
    simp [evens, h]
  rw [he, List.foldl_append]
  rfl
theorem laidTo_all (l : List Nat) : laidTo l (l.length / 2) = laid l := by
  unfold laidTo laid
  rw [List.take_of_length_le (by simp [evens])]
theorem laidTo_le {l : List Nat} : ∀ {i : Nat}, i ≤ l.length / 2 → (∀ k ∈ laidTo l i, k ≤ 2 * i) ∧ (laidTo l i).length ≤ i + 1
  | 0, _ => by simp [laidTo_zero]
  | i + 1, h => by
    have ih := laidTo_le (l := l) (i := i) (by omega)
    rw [laidTo_succ (by omega)]
    split
    · refine ⟨fun k hk => ?_, by simp; omega⟩
      rcases List.mem_append.mp hk with hk | hk
      · have := ih.1 k hk; omega
      · rw [List.mem_singleton.mp hk]; omega
    · exact ⟨fun k hk => by have := ih.1 k hk; omega, by omega⟩
def ldP (l : List Nat) (e : Nat) (v : Value) : Bool := match v with | .int k _ => pal ((l.drop k.toNat).take (e - k.toNat)) | _ => false
def dI (n : Nat) : PyData := .int (n : Int)
theorem rdI {h : Heap} {v : Value} {k : Nat} (x : IntV k v) : ∃ as, Reads h v (dI k) as := by
  obtain ⟨t, rfl⟩ := x
  exact ⟨_, Reads.int _ _⟩
theorem shaped_ints (ns : List Nat) : SeqAt.shaped (.list (ns.map dI)) = true := by
  have h1 : PyData.canLayAll0 (ns.map dI) = true := canLayAll_map _ fun a _ => by simp [dI, PyData.canLay0]
  have h2 := depthAll_map dI 1 (x := ns) fun a _ => by simp [dI, PyData.depth]
  simp only [SeqAt.shaped, PyData.canLay0, h1, Bool.true_and, decide_eq_true_eq]
  simp only [PyData.depth]
  omega
theorem shaped_nil : SeqAt.shaped (.list []) = true := shaped_ints []
theorem eqv_nil (xs : List PyData) : PyData.eqv (.list xs) (.list []) = xs.isEmpty := by
  simp only [PyData.eqv]
  cases xs <;> simp [PyData.eqvAll]

theorem cuts_test (l : List Nat) (e : Nat) (ends : List Nat) : (!((ends.filter fun k => pal ((l.drop k).take (e - k))).map dI).isEmpty) = cutsAt l e ends := by
  unfold cutsAt
  rw [Bool.eq_iff_iff]
  simp [List.isEmpty_iff, List.filter_eq_nil_iff]

structure LdSt (s₀ : Shared) (env : Env) (a : Addr) (l : List Nat) (t : Tok) (i : Nat) (s : Shared) : Prop where
  x : ∃ m cm, InCallC s₀ env.locals m env.cells cm s ∧ m "ends" = some (.ref a) ∧ cm "text" = some (.str (S l) t)
  o : ∃ its, PlainL s.heap a its ∧ Paired IntV (laidTo l i) its.toList

theorem laidCall_spec {prog : Program} {w : World} {A : Around} {s : Shared} {Q : Value → Shared → Prop} {E : Value → Shared → Prop} {l : List Nat} {t : Tok} (B : Bs w s.heap) (ok : OkA 1 A) (h1 : l.length ≤ 1000)
    (h : ∀ D s' its, Keeps s s' → PlainL s'.heap D its → Paired IntV (laid l) its.toList → Q (.ref D) s') :
    wpAny (model prog w) A (call (.ref 109) [.str (S l) t]) Q E s := by
  refine enterA (f := 109) (binds := [("text", .str (S l) t)]) B ok.room rfl (by kernel_rfl) rfl rfl rfl rfl rfl rfl rfl ?_
  intro env s₁ he x
  have hk : env.scope.kind = .function := by rw [he]; rfl
  have e : EO env := ⟨hk, by rw [he]; rfl, by rw [he]; rfl⟩
  have k1 : env.kindOf "text" = some .cell := by rw [he]; rfl
  have k2 : env.kindOf "range" = some .globalImplicit := by rw [he]; rfl
  have k3 : env.kindOf "len" = some .globalImplicit := by rw [he]; rfl
  have k4 : env.kindOf "ends" = some .local := by rw [he]; rfl
  have k5 : env.kindOf "end" = some .cell := by rw [he]; rfl
  have hcs : env.cells = [(Str.ofString "end", s.heap.objs.size + 2), (Str.ofString "text", s.heap.objs.size + 1)] := by rw [he]; rfl
  have hLs : env.locals = s.heap.objs.size := by rw [he]; rfl
  have hc1 : env.cells.lookup (Str.ofString "text") = some (s.heap.objs.size + 1) := by rw [he]; rfl
  have hc2 : env.cells.lookup (Str.ofString "end") = some (s.heap.objs.size + 2) := by rw [he]; rfl
  simp only [bindL, bindC, k1, Option.some.injEq, reduceCtorEq, if_false] at x
  have ok1 : OkA 0 (A.deeper env) := ok.deeper env
  have hh : (A.deeper env).handled = none := ok1.hh
  have B₁ := B.keeps (icKeep x)
  -- ends = [0]
  refine wpAny_execs_cons (wpAny_Assign_Name (list1 rfl (wpAny_Constant_int ?_)) (by rfl))
  refine stL ((x.tok (s₁.toks + 1)).kept (push_hk _)) hk k4 fun s₂ x₂ hs₂ => ?_
  have ha : s₁.heap.objs.size ≠ env.locals := Nat.ne_of_gt (icLt x)
  have ho₂ : PlainL s₂.heap s₁.heap.objs.size #[.int 0 s₁.toks] := ⟨_, _, hs₂ _ _ ha (Heap.get?_push_size _ rfl), rfl, rfl, rfl⟩
  have hsz : s.heap.objs.size ≤ s₁.heap.objs.size := icSize x
  have hac1 : s.heap.objs.size + 1 < s₁.heap.objs.size := icCellLt x hc1
  have hac2 : s.heap.objs.size + 2 < s₁.heap.objs.size := icCellLt x hc2
  generalize s₁.heap.objs.size = a at ha ho₂ hsz x₂ hac1 hac2
  clear hs₂ x B₁
  have B₂ := B.keeps (icKeep x₂)
  -- for end in range(2, len(text) + 1, 2)
  refine wpAny_execs_cons (wpAny_For (aCall3 rfl (nm_range B₂ e k2 (wpAny_Constant_int ?_))) (by intro _; rfl))
  refine wpAny_BinOp (aCall1 rfl (nm_len B₂ e k3 (NameCC (x₂.tok _) hk k1 hc1 rfl ⟨kp_builtin, PyProof.Rows.len_str (by simp [Str.length]; omega) (wpAny_Constant_int (PyProof.Rows.add_int ?_))⟩ (by decide))))
  refine wpAny_Constant_int ⟨kp_type, call_range_3 (by decide) ?_ (Or.inl (PyProof.noPylong_small (by simp)))⟩
  have hl : ((S l).length : Int) = (l.length : Int) := by simp [Str.length]
  rw [hl]
  refine src_rangeR hh (IsRange.new _ _ _ _ _ _ _) (small_ev _ h1) (range_ev _) fun St h₂ W hst hk₂ hI => ?_
  have hk₂' : Hk s₂.heap h₂ := fun b o q => hk₂ _ _ (Heap.get?_push_of_some _ q)
  have hnI : ∀ b o, s₂.heap.get? b = some o → b ≠ (s₂.heap.push { cls := .type "range", data := .fields #[.int 2 s₂.toks, .int ((l.length : Int) + 1) (s₂.toks + 1 + 1 + 1 + 1), .int 2 (s₂.toks + 1 + 1 + 1 + 1 + 1)] }).objs.size := fun b o q => by
    rw [Heap.size_push]; exact Nat.ne_of_lt (Nat.lt_succ_of_lt (Heap.lt_size q))
  have hsI : s.heap.objs.size ≤ (s₂.heap.push { cls := .type "range", data := .fields #[.int 2 s₂.toks, .int ((l.length : Int) + 1) (s₂.toks + 1 + 1 + 1 + 1), .int 2 (s₂.toks + 1 + 1 + 1 + 1 + 1)] }).objs.size := by rw [Heap.size_push]; have := icSize x₂; omega
  dsimp only at W hI ⊢
  generalize (s₂.heap.push { cls := .type "range", data := .fields #[.int 2 s₂.toks, .int ((l.length : Int) + 1) (s₂.toks + 1 + 1 + 1 + 1), .int 2 (s₂.toks + 1 + 1 + 1 + 1 + 1)] }).objs.size = I at *
  have hLI : env.locals ≠ I := by obtain ⟨o, _, _, q, _⟩ := x₂.toInCall.ns; exact hnI _ _ q
  have haI : a ≠ I := by obtain ⟨o, _, q, _⟩ := ho₂; exact hnI _ _ q
  have hcI : ∀ n c, (n, c) ∈ env.cells → c ≠ I := fun n c hm => by
    rw [hcs] at hm
    rcases List.mem_cons.mp hm with q | q
    · cases q; obtain ⟨o, q, _⟩ := x₂.cell _ _ hc2; exact hnI _ _ q
    · cases List.mem_singleton.mp q; obtain ⟨o, q, _⟩ := x₂.cell _ _ hc1; exact hnI _ _ q
  have hca : ∀ n c, (n, c) ∈ env.cells → c ≠ a := fun n c hm => by
    rw [hcs] at hm
    rcases List.mem_cons.mp hm with q | q
    · cases q; exact Nat.ne_of_lt hac2
    · cases List.mem_singleton.mp q; exact Nat.ne_of_lt hac1
  have hsn : s.heap.get? I = none := fresh_none hsI
  have hsa : s.heap.get? a = none := fresh_none hsz
  refine forWalk (Walks.bd W) (LdSt s env a l t) ?_ ?_ hst ?_ ?_
  · rintro i s' h' tk ⟨⟨m, cm, x', r⟩, ⟨its, ho, r'⟩⟩ hk'
    refine ⟨⟨m, cm, icWalked x' hk' (by simpa using hLI) (fun n c hm => by simpa using hcI n c hm) (by simpa using hsn), r⟩, ⟨its, ?_, r'⟩⟩
    obtain ⟨o, n, q, rest⟩ := ho
    exact ⟨o, n, hk' _ _ (by simpa using haI) q, rest⟩
  · rintro i v s' _ ⟨hi, tv, rfl⟩ hst' ⟨⟨m, cm, x', m1, m2⟩, ⟨its, ho, hp⟩⟩
    have hle := laidTo_le (l := l) (i := i) (by omega)
    have hidx : (2 + (i : Int) * 2) = ((2 * (i + 1) : Nat) : Int) := by omega
    rw [hidx]
    refine stC x' hk k5 hc2 fun s₃ x₃ hs₃ => ?_
    have hc2I : (s.heap.objs.size + 2 : Nat) ≠ I := hcI (Str.ofString "end") _ (by rw [hcs]; exact .head _)
    have hc2a : (s.heap.objs.size + 2 : Nat) ≠ a := hca (Str.ofString "end") _ (by rw [hcs]; exact .head _)
    have ho₃ : PlainL s₃.heap a its := by
      obtain ⟨o, n, q, rest⟩ := ho
      exact ⟨o, n, hs₃ _ _ (Ne.symm hc2a) q, rest⟩
    have hct : s₃.heap.IsCell (s.heap.objs.size + 1) (some (.str (S l) t)) := by
      have := x₃.cell (Str.ofString "text") _ hc1
      rw [if_neg (by decide)] at this
      rw [← m2]; exact this
    have hce : s₃.heap.IsCell (s.heap.objs.size + 2) (some (.int ((2 * (i + 1) : Nat) : Int) tv)) := x₃.cell (Str.ofString "end") _ hc2
    have hitsz : its.size = (laidTo l i).length := by rw [← Paired.len hp]; simp
    refine wpAny_execs_cons (wpAny_If (wpAny_isTrue_Compare1 (compE (cl := [(Str.ofString "text", s.heap.objs.size + 1), (Str.ofString "end", s.heap.objs.size + 2)]) (ldP l (2 * (i + 1))) (fun v y => ∀ k, IntV k v → IntV k y) (by rw [he]; rfl) (by decide) rfl (by decide) rfl (by intro _; rfl) ?_)))
    refine NameLC x₃ hk k4 m1 ⟨its.size, _, ?_, src_list hh ho₃.isList, ?_, ?_⟩ (by decide)
    · rw [hitsz, sizeLine_eq]; omega
    · have hval : ∀ (j : Nat) v, its[j]? = some v → ∃ k : Nat, ∃ u, v = .int (k : Int) u ∧ k ≤ 2 * i := fun j v hv => by
        obtain ⟨k, hk, u, rfl⟩ := paired_get hp j v (by simpa using hv)
        exact ⟨k, u, rfl, hle.1 k (List.mem_of_getElem? hk)⟩
      refine ⟨fun C j v s₄ m₄ E' hP hn hm hk' => ?_, fun C j v s₄ m₄ E' hP _ hn hm hk' => ?_⟩
      · obtain ⟨k, u, rfl, hki⟩ := hval j v hP
        have hct4 := hct.keeps hk'
        have hce4 := hce.keeps hk'
        refine tests_one (wpAny_isTrue_Compare1 (sub_both (nmC rfl (by rw [he]; rfl) rfl hct4 (by decide) ⟨l, t, rfl, h1, nmK rfl rfl hn hm (by decide) ⟨k, u, rfl, nmC rfl (by rw [he]; rfl) rfl hce4 (by decide) ⟨2 * (i + 1), tv, rfl, by omega, by omega, fun t' s₅ K5 => ?_⟩⟩⟩)))
        refine sub_rev (sub_both (nmC rfl (by rw [he]; rfl) rfl (hct4.keeps (kHk K5)) (by decide) ⟨l, t, rfl, h1, nmK rfl rfl (hn.keeps (kHk K5)) hm (by decide) ⟨k, u, rfl, nmC rfl (by rw [he]; rfl) rfl (hce4.keeps (kHk K5)) (by decide) ⟨2 * (i + 1), tv, rfl, by omega, by omega, fun t6 s₆ K6 => ⟨_, t6, rfl, by simp; omega, fun t7 s₇ K7 => ?_⟩⟩⟩⟩))
        refine PyProof.Rows.eq_str (wpAny_truthy_bool ⟨?_, kTrans K5 (kTrans K6 K7)⟩)
        rw [S_beq, Bool.eq_iff_iff, decide_eq_true_iff]
        simp only [ldP, Int.toNat_natCast, pal_iff]
      · obtain ⟨k, u, rfl, hki⟩ := hval j v hP
        exact nmK rfl rfl hn hm (by decide) ⟨fun k h => h, kRefl _⟩
    · intro D s₄ ys vs K hD hl' hlen hP hF
      have hvs : vs = its.toList := List.ext_getElem? fun j => by
        by_cases hj : j < its.size
        · have hj' : j < vs.length := by omega
          have := hP j vs[j] (List.getElem?_eq_getElem hj')
          rw [List.getElem?_eq_getElem hj', Array.getElem?_toList, this]
        · rw [List.getElem?_eq_none (by omega), List.getElem?_eq_none (by simp; omega)]
      subst hvs
      have hq := paired_filter (p := ldP l (2 * (i + 1))) (q := fun k => pal ((l.drop k).take (2 * (i + 1) - k))) hp (by
        rintro k v ⟨u, rfl⟩
        simp [ldP])
      have hq2 := paired_of (G := fun k y => ∃ as, Reads s₄.heap y (dI k) as) hq hF fun k v y _ hr hf => rdI (hf k hr)
      obtain ⟨as, hr⟩ := rd_of dI hl' hq2
      refine list0 (SeqAt.compareNe_shaped (Reads.keeps (push_hk _) hr) (reads_list_at (Heap.get?_push_size _ rfl) rfl rfl .nil) (shaped_ints _) shaped_nil ok1.line (wpAny_truthy_bool ?_))
      rw [eqv_nil]
      have hcut := cuts_test l (2 * (i + 1)) (laidTo l i)
      rw [hcut]
      have K35 := kTrans K (kPush { cls := .type "list", data := .seq #[] } s₄.toks)
      have x₅ := icUp x₃ K35
      have ho₅ := ho₃.keeps (kHk K35)
      have hI₅ : ∀ b ∈ [I], ∀ o, s'.heap.get? b = some o → (s₄.heap.push { cls := .type "list", data := .seq #[] }).get? b = some o := fun b hb o q => by
        rw [List.mem_singleton.mp hb] at q ⊢
        exact kHk K35 _ _ (hs₃ _ _ (Ne.symm hc2I) q)
      have hsucc := laidTo_succ (l := l) hi
      cases hb : cutsAt l (2 * (i + 1)) (laidTo l i) with
      | false =>
        rw [hb] at hsucc
        refine wpAny_execs_nil (wpAny_execs_nil ⟨rfl, ⟨⟨_, _, x₅, m1, m2⟩, ⟨its, ho₅, ?_⟩⟩, hI₅⟩)
        rw [hsucc]; exact hp
      | true =>
        rw [hb] at hsucc
        refine wpAny_execs_cons (wpAny_Expr (wpAny_Call_append rfl (by rfl) (by rfl) rfl (NameLC x₅ hk k4 m1 ⟨a, its, rfl, ho₅, NameCC x₅ hk k5 hc2 rfl (list_append_plainL ho₅ (fun h' ho₆ hs₆ => ?_) (by rw [hitsz, sizeLine_eq]; omega)) (by decide)⟩ (by decide))) (by rw [he]; rfl) (by rfl))
        refine wpAny_execs_nil (wpAny_execs_nil ⟨rfl, ⟨⟨_, _, icWalked (wr := [a]) x₅ (fun b o hb q => hs₆.extBut b o (by simpa using hb) q) (by simpa using Ne.symm ha) (fun n c hm => by simpa using hca n c hm) (by simpa using hsa), m1, m2⟩, ⟨_, ho₆, ?_⟩⟩, fun b hb o q => hs₆.extBut b o (by rw [List.mem_singleton.mp hb]; exact Ne.symm haI) (hI₅ b hb o q)⟩)
        rw [hsucc, Array.toList_push]
        exact hp.snoc ⟨_, rfl⟩
  · refine ⟨⟨_, _, (x₂.tok _).kept hk₂', rfl, rfl⟩, ⟨_, ho₂.keeps hk₂', ?_⟩⟩
    rw [laidTo_zero]
    exact .cons ⟨_, rfl⟩ .nil
  · rintro s' ⟨⟨m, cm, x', m1, m2⟩, ⟨its, ho, hp⟩⟩
    rw [laidTo_all] at hp
    exact wpAny_execs_cons (wpAny_Return_some (NameLC x' hk k4 m1 (h _ _ its (icKeeps x') ho hp) (by decide)))
end Mine

end

section
set_option maxRecDepth 100000
namespace Mine
open PySem PySem.W PySem.Calls PyProof.Rows
open Sem (wp)
section
variable {prog : Program} {w : World} {A : Around} {E : Value → Shared → Prop} {s : Shared} {env : Env}
/-- a while on the path; nothing raises -/
theorem nWhile {test : Expr} {body : List Stmt} {pos : Pos} {Q : Flow → Shared → Prop} (I : Nat → Shared → Prop)
    (turn : ∀ n s, I n s → wpN (model prog w) A (isTrue test env (eval test env)) (fun b s₂ =>
        if b then wpN (model prog w) A (execs body env) (fun f s₃ => match f with
            | .next | .cont => ∃ m, m < n ∧ I m s₃
            | .brk => Q .next s₃
            | .ret v => Q (.ret v) s₃) (fun _ _ => False) s₂
        else Q .next s₂) (fun _ _ => False) s)
    (n : Nat) (h : I n s) : wpN (model prog w) A (exec (.While test body [] pos) env) Q E s := by
  rw [exec_While]
  refine wpN_bind (wpN_standAt ?_)
  unfold runOwn
  refine wpN_onRaise (wpN_run (codeN_mono (R := fun r s' => ∃ f, r = .ok f ∧ Q f s') ?_ fun r s' hr => ?_))
  · refine codeN_loop rfl rfl I (fun n s hI => ?_) n h
    show wpN _ A ((whileTurn test body [] env).onRaise (fun x => do noteFrame x env; theTreesLotGoes x)) _ _ s
    refine wpN_onRaise (wpN_mono (E := fun _ _ => False) ?_ (fun _ _ q => q) fun _ _ q => q.elim)
    simp only [whileTurn]
    refine wpN_bind (wpN_mono (turn n s hI) (fun b s₂ h₂ => ?_) fun _ _ h' => h')
    cases b with
    | false =>
      simp only [Bool.false_eq_true, if_false] at h₂ ⊢
      exact wpN_bind (nExecs_nil (wpN_pure ⟨_, rfl, h₂⟩))
    | true =>
      simp only [if_true] at h₂ ⊢
      refine wpN_bind (wpN_mono h₂ (fun f s₃ h₃ => ?_) fun _ _ h' => h')
      cases f with
      | next => exact wpN_pure ⟨rfl, h₃⟩
      | cont => exact wpN_pure ⟨rfl, h₃⟩
      | brk => exact wpN_pure ⟨_, rfl, h₃⟩
      | ret v => exact wpN_pure ⟨_, rfl, h₃⟩
  · obtain ⟨f, rfl, hq⟩ := hr
    exact hq
/-- value[::-1] of a list -/
theorem sub_lrev {value : Expr} {p pos p1 p2 : Pos} {c : Nat} {Q : Value → Shared → Prop} (h : wpAny (model prog w) A (eval value env) (fun o s₁ => ∃ a its, o = .ref a ∧ s₁.heap.IsList a its ∧ its.size ≤ 1000 ∧ ∀ D s', Keeps s₁ s' → s'.heap.IsList D its.reverse → s₁.heap.get? D = none → Q (.ref D) s') E s) :
    wpAny (model prog w) A (eval (.Subscript value (.Slice none none (some (.UnaryOp .USub (.Constant (.int 1) c p1) p2)) p) pos) env) Q E s := by
  refine Subscript_ (wpAny_mono h (fun o s₁ h₁ => ?_) fun _ _ q => q)
  obtain ⟨a, its, rfl, hl, hz, hq⟩ := h₁
  refine wpAny_Slice (part_none (part_none (part_some (UnaryOp_ (wpAny_Constant_int (PyProof.Rows.neg_int ?_))))))
  refine tail_any (ops := [.ref a, .ref s₁.heap.objs.size]) (Heap.IsList.typeIs (hl.push _)) list_getitem_lookup (wpAny_getItem_list_slice (hl.push _) (Heap.IsSliceOf.new ..) .none .none (.int _ _) (by decide) ?_ (by rw [sizeLine_eq]; omega)) rfl
  rw [lp_rev]
  refine hq _ _ ⟨_, _, rfl, fun b o q => Heap.get?_push_of_some _ (Heap.get?_push_of_some _ q)⟩ ⟨_, Heap.get?_push_size _ rfl, rfl, _, rfl⟩ (fresh_none ?_)
  rw [Heap.size_push]
  exact Nat.le_succ _
/-- value[-1] of a list -/
theorem sub_last {value : Expr} {pos p1 p2 : Pos} {c : Nat} {Q : Value → Shared → Prop} (h : wpAny (model prog w) A (eval value env) (fun o s₁ => ∃ a its x, o = .ref a ∧ s₁.heap.IsList a its ∧ its.toList.getLast? = some x ∧ ∀ s', Keeps s₁ s' → Q x s') E s) :
    wpAny (model prog w) A (eval (.Subscript value (.UnaryOp .USub (.Constant (.int 1) c p1) p2) pos) env) Q E s := by
  refine Subscript_ (wpAny_mono h (fun o s₁ h₁ => ?_) fun _ _ q => q)
  obtain ⟨a, its, x, rfl, hl, hx, hq⟩ := h₁
  refine UnaryOp_ (wpAny_Constant_int (PyProof.Rows.neg_int ?_))
  have hne : its.size ≠ 0 := fun e => by
    have : its = #[] := Array.eq_empty_of_size_eq_zero e
    subst this; simp at hx
  rw [List.getLast?_eq_getElem?] at hx
  refine tail_any (ops := [.ref a, .int (-1) (s₁.toks + 1)]) hl.typeIs list_getitem_lookup (wpAny_getItem_list_neg hl (by decide) (by omega) (by decide) ?_ (hq _ (kTok _))) rfl
  rw [← hx]
  have e : (-1 + (its.size : Int)).toNat = its.size - 1 := by omega
  simp [e]
theorem tuple2 {M : Model} {pos : Pos} {k : Nat} {e1 e2 : Expr} {Q : Value → Shared → Prop} (hs : backTo pos (starEach [e1, e2] env) = [(false, eval e1 env), (false, eval e2 env)])
    (h : wpAny M A (eval e1 env) (fun v1 s₁ => wpAny M A (eval e2 env) (fun v2 s₂ => Q (.ref s₂.heap.objs.size) { s₂ with heap := s₂.heap.push { cls := .type "tuple", data := .seq #[v1, v2] } }) E s₁) E s) :
    wpAny M A (eval (.Tuple [e1, e2] k pos) env) Q E s := by
  refine Tuple_ ?_
  rw [hs]
  exact spliced_cons (wpAny_mono h (fun v1 s₁ h₁ => spliced_cons (wpAny_mono h₁ (fun v2 s₂ h₂ => spliced_nil (wpAny_newTuple h₂ (by rw [sizeLine_eq]; exact Nat.le_of_ble_eq_true rfl))) fun _ _ q => q)) fun _ _ q => q)
end

/-! plain: what is shared are the mirrors -/
theorem evens_step (n : Nat) : evens (n + 1) = if (n + 1) % 2 = 0 then evens n ++ [n + 1] else evens n := by
  unfold evens
  split
  · rename_i h
    have e : (n + 1) / 2 = n / 2 + 1 := by omega
    rw [e, List.range_succ, List.map_append]
    simp
    omega
  · rename_i h
    have e : (n + 1) / 2 = n / 2 := by omega
    rw [e]
theorem sizes_even : ∀ n : Nat, (sizesDown n).filter (fun k => k % 2 == 0) = (evens n).reverse
  | 0 => by simp [sizesDown, evens]
  | 1 => by simp [sizesDown, evens]
  | n + 2 => by
    have ih := sizes_even (n + 1)
    have hs : sizesDown (n + 2) = (n + 2) :: sizesDown (n + 1) := by
      unfold sizesDown
      have : n + 2 - 1 = n + 1 := rfl
      rw [this, List.range_succ_eq_map, List.map_cons, List.map_map]
      simp only [Nat.add_sub_cancel, Nat.sub_zero, List.cons.injEq, true_and]
      apply List.map_congr_left
      intro a _
      simp only [Function.comp]
      omega
    rw [hs, List.filter_cons, evens_step, ih]
    split
    · rename_i h
      have h' : (n + 2) % 2 = 0 := by simpa using h
      rw [if_pos h']
      simp
    · rename_i h
      have h' : ¬ (n + 2) % 2 = 0 := by simpa using h
      rw [if_neg h']
theorem mirrors_eq (l : List Nat) : mirrors l = (((evens l.length).reverse).filter fun k => pal (l.take k)).map fun k => l.take k := by
  unfold mirrors
  rw [← sizes_even, List.filter_filter]
  congr 1
  apply List.filter_congr
  intro k _
  rw [Bool.and_comm]
theorem mem_evens {n k : Nat} : k ∈ evens n ↔ 2 ≤ k ∧ k ≤ n ∧ k % 2 = 0 := by
  unfold evens
  simp only [List.mem_map, List.mem_range]
  constructor
  · rintro ⟨i, hi, rfl⟩; omega
  · rintro ⟨h1, h2, h3⟩; exact ⟨k / 2 - 1, by omega, by omega⟩
theorem evens_get {n j : Nat} (h : j < n / 2) : (evens n)[j]? = some (2 * (j + 1)) := by simp [evens, h]
theorem evens_len (n : Nat) : (evens n).length = n / 2 := by simp [evens]
/-- membership among the turned fronts -/
theorem met_iff {l : List Nat} {k : Nat} (hk : k ∈ evens l.length) : metS (fun j => S (l.take (2 * (j + 1))).reverse) (l.length / 2) (S (l.take k)) = pal (l.take k) := by
  obtain ⟨h1, h2, h3⟩ := mem_evens.mp hk
  rw [Bool.eq_iff_iff]
  unfold metS
  rw [decide_eq_true_iff, pal_iff]
  have inj : ∀ a b : List Nat, S a = S b → a = b := fun a b h => by
    have := congrArg (fun x : Str => x.cps.toList) h
    simpa using this
  constructor
  · rintro ⟨j, hj, e⟩
    have e' := inj _ _ e
    have : 2 * (j + 1) = k := by
      have := congrArg List.length e'
      simp at this
      omega
    rw [this] at e'
    exact e'.symm
  · intro e
    refine ⟨k / 2 - 1, by omega, ?_⟩
    have : 2 * (k / 2 - 1 + 1) = k := by omega
    show S (l.take (2 * (k / 2 - 1 + 1))).reverse = _
    rw [this, ← e]
end Mine

end

section
set_option maxRecDepth 100000
namespace Mine
open PySem PySem.W PySem.Calls PyProof.Rows
open Sem (wp)

theorem paired_revA {α : Type} {R : α → Value → Prop} : ∀ {xs : List α} {vs : List Value}, Paired R xs vs → Paired R xs.reverse vs.reverse
  | _, _, .nil => .nil
  | a :: xs, v :: vs, .cons r t => by
    rw [List.reverse_cons, List.reverse_cons]
    exact (paired_revA t).snoc r
theorem paired_filterM {α : Type} {R : α → Value → Prop} {p : Value → Bool} {q : α → Bool} : ∀ {xs : List α} {vs : List Value}, Paired R xs vs → (∀ a ∈ xs, ∀ v, R a v → p v = q a) → Paired R (xs.filter q) (vs.filter p)
  | _, _, .nil, _ => .nil
  | a :: xs, v :: vs, .cons r t, h => by
    have e := h a (.head _) v r
    rw [List.filter_cons, List.filter_cons, e]
    cases q a with
    | true => exact .cons r (paired_filterM t fun b hb => h b (.tail _ hb))
    | false => exact paired_filterM t fun b hb => h b (.tail _ hb)
theorem paired_imp {α : Type} {R R' : α → Value → Prop} : ∀ {xs : List α} {vs : List Value}, Paired R xs vs → (∀ a v, R a v → R' a v) → Paired R' xs vs
  | _, _, .nil, _ => .nil
  | _, _, .cons r t, h => .cons (h _ _ r) (paired_imp t h)
theorem paired_last {α : Type} {R : α → Value → Prop} {xs : List α} {vs : List Value} (p : Paired R xs vs) (h : xs ≠ []) : ∃ v, vs.getLast? = some v ∧ R (xs.getLast h) v := by
  have hl := Paired.len p
  have h0 : 0 < xs.length := List.length_pos_iff.mpr h
  have hv : vs.length - 1 < vs.length := by omega
  obtain ⟨a, h1, h2⟩ := paired_get p (vs.length - 1) vs[vs.length - 1] (List.getElem?_eq_getElem hv)
  refine ⟨vs[vs.length - 1], by rw [List.getLast?_eq_getElem?]; exact List.getElem?_eq_getElem hv, ?_⟩
  rw [hl] at h1
  rw [List.getLast_eq_getElem]
  rw [List.getElem?_eq_getElem (by omega)] at h1
  cases h1
  exact h2

/-- what is kept: the mirrors -/
theorem shared_mirrors {l : List Nat} {ys : Array Value} (hp : Paired (fun k v => StrV (l.take k) v) (evens l.length) ys.toList) :
    Paired StrV (mirrors l) (ys.reverse.filter (kept (metS (fun j => S (l.take (2 * (j + 1))).reverse) (l.length / 2)))).toList := by
  rw [mirrors_eq]
  refine paired_mapF ?_
  have h1 := paired_revA hp
  have e : (ys.reverse.filter (kept (metS (fun j => S (l.take (2 * (j + 1))).reverse) (l.length / 2)))).toList = ys.toList.reverse.filter (kept (metS (fun j => S (l.take (2 * (j + 1))).reverse) (l.length / 2))) := by
    simp
  rw [e]
  refine paired_filterM h1 ?_
  rintro k hk v ⟨t, rfl⟩
  exact met_iff (List.mem_reverse.mp hk)
theorem low_take {l : List Nat} (h : Low l) (k : Nat) : Low (l.take k) := fun c hc => h c (List.mem_of_mem_take hc)
theorem low_drop {l : List Nat} (h : Low l) (k : Nat) : Low (l.drop k) := fun c hc => h c (List.mem_of_mem_drop hc)
theorem low_mirrors {l : List Nat} (h : Low l) : ∀ m ∈ mirrors l, Low m := fun m hm => by
  rw [mirrors_eq] at hm
  obtain ⟨k, _, rfl⟩ := List.mem_map.mp hm
  exact low_take h k
theorem lastOf_last {ls : List (List Nat)} (h : ls ≠ []) : ls.getLast h = lastOf ls := by
  unfold lastOf
  rw [List.getLastD_eq_getLast?, List.getLast?_eq_some_getLast h]
  rfl

/-- merge_entries(_law_record(fronts[::-1]), _law_record(turned)).useragents -/
theorem shared_expr {prog : Program} {w : World} {A : Around} {E : Value → Shared → Prop} {s : Shared} {env : Env} {s₀ : Shared} {m cm : Str → Option Value} {Q : Value → Shared → Prop}
    {p1 p2 p3 p4 p5 p6 p7 p8 p9 p10 p11 p12 p13 : Pos} {c1 : Nat} {D1 D2 : Addr} {ys zs : Array Value} {l : List Nat}
    (B : Bs w s₀.heap) (x : InCallC s₀ env.locals m env.cells cm s) (ok : OkA 4 A) (e : EO env)
    (k1 : env.kindOf "fronts" = some .local) (k2 : env.kindOf "turned" = some .local) (k3 : env.kindOf "merge_entries" = some .globalImplicit) (k4 : env.kindOf "_law_record" = some .globalImplicit)
    (m1 : m "fronts" = some (.ref D1)) (m2 : m "turned" = some (.ref D2)) (hl1 : s.heap.IsList D1 ys) (hl2 : s.heap.IsList D2 zs)
    (hz : l.length ≤ 1000) (hy : Paired (fun k v => StrV (l.take k) v) (evens l.length) ys.toList) (hzs : Paired (fun k v => StrV (l.take k).reverse v) (evens l.length) zs.toList)
    (h : ∀ la its s', Keeps s s' → s.heap.get? la = none → s'.heap.IsList la its → Paired StrV (mirrors l) its.toList → Q (.ref la) s') :
    wpAny (model prog w) A (eval (.Attribute (.Call (.Name "merge_entries" p1) [.Call (.Name "_law_record" p2) [.Subscript (.Name "fronts" p3) (.Slice none none (some (.UnaryOp .USub (.Constant (.int 1) c1 p4) p5)) p6) p7] [] p8, .Call (.Name "_law_record" p9) [.Name "turned" p10] [] p11] [] p12) "useragents" p13) env) Q E s := by
  have hy1 : ys.size = l.length / 2 := by have := Paired.len hy; rw [evens_len] at this; simpa using this
  have hz1 : zs.size = l.length / 2 := by have := Paired.len hzs; rw [evens_len] at this; simpa using this
  have B₁ := B.keeps (icKeep x)
  refine Attribute_any_ ?_ rfl
  refine aCall2 rfl (nm_merge B₁ e k3 ?_)
  refine aCall1 rfl (nm_record B₁ e k4 ?_)
  refine sub_lrev (NameLC x e.hk k1 m1 ⟨D1, ys, rfl, hl1, by omega, fun D s₂ K₂ hl hn => ⟨kp94 (B₁.keeps (kHk K₂)), ?_⟩⟩ (by decide))
  have B₂ := B₁.keeps (kHk K₂)
  refine record_spec B₂ ok fun x1 d1 r1 s₃ K₃ E₃ hr₃ => ?_
  have B₃ := B₂.keeps (kHk K₃)
  have x₃ := icUp x (kTrans K₂ K₃)
  refine aCall1 rfl (nm_record B₃ e k4 (NameLC x₃ e.hk k2 m2 ⟨kp94 B₃, ?_⟩ (by decide)))
  refine record_spec B₃ ok fun x2 d2 r2 s₄ K₄ E₄ hr₄ => ?_
  have B₄ := B₃.keeps (kHk K₄)
  refine ⟨kp77 B₄, ?_⟩
  have K24 := kTrans K₃ K₄
  have K14 := kTrans K₂ K24
  refine merge_spec (val := fun j => S (l.take (2 * (j + 1))).reverse) (items := ys.reverse) (items2 := zs) B₄ ok (E₃.keeps (kHk K₄)) E₄ (hl.at fun o q => kHk K24 _ _ q) (hl2.at fun o q => kHk K14 _ _ q) (hr₃.at fun o q => kHk K₄ _ _ q) hr₄
    (fun i v hv => ?_) (fun i v hv => ?_) (by simp; omega) (by omega) fun xx dx la lb s₅ K₅ E₅ hla hnew => ?_
  · have hv' : v ∈ ys.toList := by
      have := Array.mem_of_getElem? hv
      simpa using this
    obtain ⟨j, hj⟩ := List.mem_iff_getElem?.mp hv'
    obtain ⟨k, _, t, rfl⟩ := paired_get hy j v hj
    exact ⟨_, _, rfl⟩
  · obtain ⟨k, hk, t, rfl⟩ := paired_get hzs i v (by simpa using hv)
    have hi : i < l.length / 2 := by
      have : i < (evens l.length).length := (List.getElem?_eq_some_iff.mp hk).1
      rwa [evens_len] at this
    rw [evens_get hi] at hk
    cases hk
    exact ⟨t, rfl⟩
  refine ent_ua (B₄.keeps (kHk K₅)) E₅ rfl ?_
  rw [hz1] at hla
  refine h la _ _ (kTrans (kTrans K14 K₅) (kTok _)) ?_ hla (shared_mirrors hy)
  cases q : s.heap.get? la with
  | none => rfl
  | some o => rw [kHk K14 _ _ q] at hnew; cases hnew
end Mine

end

section
set_option maxRecDepth 100000
namespace Mine
open PySem PySem.W PySem.Calls PyProof.Rows
open Sem (wp)

def ShV (bad : List Addr) (h : Heap) (ls : List (List Nat)) (v : Value) : Prop := ∃ D ys, v = .ref D ∧ D ∉ bad ∧ h.IsList D ys ∧ Paired StrV ls ys.toList
theorem ShV.up {bad : List Addr} {h h' : Heap} {ls : List (List Nat)} {v : Value} (x : ShV bad h ls v) (k : ∀ b o, b ∉ bad → h.get? b = some o → h'.get? b = some o) : ShV bad h' ls v := by
  obtain ⟨D, ys, rfl, hD, hl, hp⟩ := x
  exact ⟨D, ys, rfl, hD, hl.at fun o q => k _ _ hD q, hp⟩
theorem shs_up {bad : List Addr} {h h' : Heap} {acc : List (List (List Nat))} {vs : List Value} (x : Paired (ShV bad h) acc vs) (k : ∀ b o, b ∉ bad → h.get? b = some o → h'.get? b = some o) : Paired (ShV bad h') acc vs := paired_imp x fun _ _ r => r.up k
theorem rdLL_of {a : Addr} {h : Heap} {its : Array Value} {acc : List (List (List Nat))} {bad : List Addr} (ho : PlainL h a its) (hp : Paired (ShV bad h) acc its.toList) : RdLL h (.ref a) acc := by
  refine rd_of dL ho.isList (paired_imp hp ?_)
  rintro ls v ⟨D, ys, rfl, _, hl, hq⟩
  exact rd_of dS hl (paired_imp hq fun _ _ r => rdS.mpr r)
structure CtSt (s₀ : Shared) (env : Env) (a : Addr) (bad : List Addr) (l : List Nat) (n : Nat) (s : Shared) : Prop where
  x : ∃ m cm l' t' its acc, InCallC s₀ env.locals m env.cells cm s ∧ m "cuts" = some (.ref a) ∧ cm "text" = some (.str (S l') t') ∧ l'.length = n ∧ Low l' ∧ PlainL s.heap a its ∧
    Paired (ShV bad s.heap) acc its.toList ∧ its.size + l'.length ≤ l.length ∧ (cut l).1 = acc ++ (cut l').1 ∧ (cut l).2 = (cut l').2
theorem S_ne_nil (l : List Nat) : (S l != Str.ofString "") = decide (l ≠ []) := by
  have e : Str.ofString "" = S [] := by decide
  rw [e]
  show (!(S l == S [])) = _
  rw [S_beq]
  by_cases h : l = [] <;> simp [h]
/-- return (cuts, text) -/
theorem ct_ret {prog : Program} {w : World} {A : Around} {s : Shared} {env : Env} {s₀ : Shared} {m cm : Str → Option Value} {Q : Value → Shared → Prop} {E : Value → Shared → Prop} {p1 p2 p3 : Pos} {k : Nat} {a c : Addr} {l' : List Nat} {t' : Tok} {its : Array Value} {acc : List (List (List Nat))} {bad : List Addr}
    (x : InCallC s₀ env.locals m env.cells cm s) (hk : env.scope.kind = .function) (k1 : env.kindOf "text" = some .cell) (k2 : env.kindOf "cuts" = some .local) (hc : env.cells.lookup (Str.ofString "text") = some c)
    (m1 : m "cuts" = some (.ref a)) (m2 : cm "text" = some (.str (S l') t')) (ho : PlainL s.heap a its) (hp : Paired (ShV bad s.heap) acc its.toList)
    (h : ∀ T C t' s', Keeps s₀ s' → s'.heap.IsTuple T #[.ref C, .str (S l') t'] → RdLL s'.heap (.ref C) acc → Q (.ref T) s') :
    wpAny (model prog w) A (eval (.Tuple [.Name "cuts" p1, .Name "text" p2] k p3) env) Q E s := by
  refine tuple2 rfl (NameLC x hk k2 m1 (NameCC x hk k1 hc m2 ?_ (by decide)) (by decide))
  refine h _ a t' _ (kTrans (icKeeps x) (kPush _ _)) ⟨_, Heap.get?_push_size _ rfl, rfl, _, rfl⟩ ((rdLL_of ho hp).keeps (push_hk _))
end Mine

end

section
set_option maxRecDepth 100000
namespace Mine
open PySem PySem.W PySem.Calls PyProof.Rows
open Sem (wp)

theorem cutCall_spec {prog : Program} {w : World} {A : Around} {s : Shared} {Q : Value → Shared → Prop} {E : Value → Shared → Prop} {l : List Nat} {t : Tok} (B : Bs w s.heap) (ok : OkA 5 A) (h1 : l.length ≤ 500) (hlow : Low l)
    (h : ∀ T C t' s', Keeps s s' → s'.heap.IsTuple T #[.ref C, .str (S (cut l).2) t'] → RdLL s'.heap (.ref C) (cut l).1 → Q (.ref T) s') :
    wpN (model prog w) A (call (.ref 99) [.str (S l) t]) Q E s := by
  refine enterN (f := 99) (binds := [("text", .str (S l) t)]) B ok.room rfl (by kernel_rfl) rfl rfl rfl rfl rfl rfl rfl ?_
  intro env s₁ he x
  have hk : env.scope.kind = .function := by rw [he]; rfl
  have e : EO env := ⟨hk, by rw [he]; rfl, by rw [he]; rfl⟩
  have k1 : env.kindOf "text" = some .cell := by rw [he]; rfl
  have k2 : env.kindOf "cuts" = some .local := by rw [he]; rfl
  have k3 : env.kindOf "fronts" = some .local := by rw [he]; rfl
  have k4 : env.kindOf "turned" = some .local := by rw [he]; rfl
  have k5 : env.kindOf "shared" = some .local := by rw [he]; rfl
  have k6 : env.kindOf "range" = some .globalImplicit := by rw [he]; rfl
  have k7 : env.kindOf "len" = some .globalImplicit := by rw [he]; rfl
  have k8 : env.kindOf "merge_entries" = some .globalImplicit := by rw [he]; rfl
  have k9 : env.kindOf "_law_record" = some .globalImplicit := by rw [he]; rfl
  have hcs : env.cells = [(Str.ofString "text", s.heap.objs.size + 1)] := by rw [he]; rfl
  have hc1 : env.cells.lookup (Str.ofString "text") = some (s.heap.objs.size + 1) := by rw [he]; rfl
  simp only [bindL, bindC, k1, Option.some.injEq, reduceCtorEq, if_false] at x
  have ok1 : OkA 4 (A.deeper env) := ok.deeper env
  have hh : (A.deeper env).handled = none := ok1.hh
  -- cuts = []
  refine nExecs_cons (nAssign_Name (wpN_of (list0 ?_)) (by rfl))
  refine stL (x.kept (push_hk _)) hk k2 fun s₂ x₂ hs₂ => ?_
  have ha : s₁.heap.objs.size ≠ env.locals := Nat.ne_of_gt (icLt x)
  have ho₂ : PlainL s₂.heap s₁.heap.objs.size #[] := ⟨_, _, hs₂ _ _ ha (Heap.get?_push_size _ rfl), rfl, rfl, rfl⟩
  have hsz : s.heap.objs.size ≤ s₁.heap.objs.size := icSize x
  have hac1 : s.heap.objs.size + 1 < s₁.heap.objs.size := icCellLt x hc1
  generalize s₁.heap.objs.size = a at ha ho₂ hsz x₂ hac1
  clear hs₂ x
  have hca : ∀ n c, (n, c) ∈ env.cells → c ≠ a := fun n c hm => by
    rw [hcs] at hm
    cases List.mem_singleton.mp hm; exact Nat.ne_of_lt hac1
  have hca1 : (s.heap.objs.size + 1 : Nat) ≠ a := Nat.ne_of_lt hac1
  have hsa : s.heap.get? a = none := fresh_none hsz
  -- the loop
  refine nExecs_cons (nWhile (CtSt s env a [a, env.locals, s.heap.objs.size + 1] l) ?_ l.length ?_)
  · rintro n s' ⟨m, cm, l', t', its, acc, x', m1, m2, hn, hlo, ho, hp, hsz', hc1', hc2'⟩
    refine wpN_of (wpAny_isTrue_Compare1 (NameCC x' hk k1 hc1 m2 (wpAny_Constant_str (PyProof.Rows.ne_str (wpAny_truthy_bool ?_))) (by decide)))
    have x₁ := x'.tok (s'.toks + 1)
    have hnil := S_ne_nil l'
    by_cases hl0 : l' = []
    · have ht : (S l' != Str.ofString "") = false := by rw [hnil]; simp [hl0]
      rw [show ((S l' != _) = false) from ht]
      simp only [Bool.false_eq_true, if_false]
      refine wpN_of (wpAny_execs_cons (wpAny_Return_some (ct_ret x₁ hk k1 k2 hc1 m1 m2 ho hp fun T C t₂ s₃ K hT hC => ?_)))
      have e1 : (cut l).1 = acc := by rw [hc1', hl0, cut_nil]; simp
      have e2 : (cut l).2 = l' := by rw [hc2', hl0, cut_nil]
      rw [← e1] at hC
      rw [← e2] at hT
      exact h T C t₂ s₃ K hT hC
    · have ht : (S l' != Str.ofString "") = true := by rw [hnil]; simp [hl0]
      rw [show ((S l' != _) = true) from ht]
      simp only [if_true]
      have hll : l'.length ≤ 500 := by omega
      have Bx := B.keeps (icKeep x₁)
      clear x'
      -- fronts
      refine nExecs_cons (wpN_of (compAsg (s₀ := s) (cm := cm) (cl := [(Str.ofString "text", s.heap.objs.size + 1)]) (fun _ => true) (fun v y => ∀ k : Nat, IntV k v → StrV (l'.take k) y) (by rw [he]; rfl) (by rw [he]; rfl) (by decide) rfl (by decide) rfl k3 e.hp (by intro _; rfl) ?_))
      refine aCall3 rfl (nm_range Bx e k6 (wpAny_Constant_int ?_))
      refine wpAny_BinOp (aCall1 rfl (nm_len (Bx.keeps (kHk (kTok _))) e k7 (NameCC (x₁.tok _) hk k1 hc1 m2 ⟨kp_builtin, PyProof.Rows.len_str (by simp [Str.length]; omega) (wpAny_Constant_int (PyProof.Rows.add_int ?_))⟩ (by decide))))
      refine wpAny_Constant_int ⟨kp_type, call_range_3 (by decide) ?_ (Or.inl (PyProof.noPylong_small (by simp)))⟩
      have hl' : ((S l').length : Int) = (l'.length : Int) := by simp [Str.length]
      rw [hl']
      refine ⟨l'.length / 2, _, m, by rw [sizeLine_eq]; omega, Src.bd (src_range hh (IsRange.new _ _ _ _ _ _ _) (small_ev _ (by omega)) (range_ev _)), icUp x₁ (kTrans (kTok _) (kPush _ _)), ?_, ?_⟩
      · have hcell : s'.heap.IsCell (s.heap.objs.size + 1) (some (.str (S l') t')) := by
          have := x₁.cell (Str.ofString "text") _ hc1
          rw [m2] at this; exact this
        refine ⟨fun C i v s₃ m₃ E' _ _ _ hk' => tests_nil ⟨rfl, kRefl _⟩, fun C i v s₃ m₃ E' hP _ hn' hm hk' => ?_⟩
        obtain ⟨hi, u, rfl⟩ := hP
        have hidx : (2 + (i : Int) * 2) = ((2 * (i + 1) : Nat) : Int) := by omega
        rw [hidx] at hm ⊢
        have hc3 : s₃.heap.IsCell (s.heap.objs.size + 1) (some (.str (S l') t')) := hcell.keeps fun b o q => hk' b o (Heap.get?_push_of_some _ q)
        refine sub_to (nmC rfl (by rw [he]; rfl) rfl hc3 (by decide) ⟨l', t', rfl, by omega, nmK rfl rfl hn' hm (by decide) ⟨2 * (i + 1), u, rfl, by omega, fun t' s₄ K4 => ⟨?_, K4⟩⟩⟩)
        rintro k' ⟨u', e'⟩
        have e1 : ((2 * (i + 1) : Nat) : Int) = (k' : Int) := by injection e'
        have e2 : 2 * (i + 1) = k' := by omega
        rw [← e2]
        exact ⟨_, rfl⟩
      · intro D1 s₄ ys vs x₄ hs₄ hD1 hD1L hl1 hlen hP hF
        rw [filter_tt] at hF
        have hys : Paired (fun k v => StrV (l'.take k) v) (evens l'.length) ys.toList := by
          have hpv : Paired IntV (evens l'.length) vs := paired_idx (by rw [hlen, evens_len]) fun j v hv => by
            obtain ⟨hj, u, rfl⟩ := hP j v hv
            exact ⟨2 * (j + 1), evens_get hj, u, by congr 1; omega⟩
          exact paired_of hpv hF fun k v y _ hr hf => hf k hr
        have ho₄ : PlainL s₄.heap a its := by
          obtain ⟨o, n, q, rest⟩ := ho
          exact ⟨o, n, hs₄ _ _ ha (Heap.get?_push_of_some _ q), rest⟩
        have hp₄ : Paired (ShV [a, env.locals, s.heap.objs.size + 1] s₄.heap) acc its.toList := shs_up hp fun b o hb q => hs₄ _ _ (fun e => hb (by simp [e])) (Heap.get?_push_of_some _ q)
        clear hs₄ hp ho hP hF hlen vs x₁ Bx hD1
        -- turned
        have B₄ := B.keeps (icKeep x₄)
        refine nExecs_cons (nAsgComp (s₀ := s) (cm := cm) (cl := []) (fun v y => ∀ k : Nat, k ∈ evens l'.length → StrV (l'.take k) v → StrV (l'.take k).reverse y) (by rw [he]; rfl) (by rw [he]; rfl) (by decide) rfl (by decide) rfl k4 e.hp (by intro _; rfl) ?_)
        have hyz : ys.size = l'.length / 2 := by have := Paired.len hys; rw [evens_len] at this; simpa using this
        refine NameLC x₄ hk k3 rfl ⟨ys.size, _, _, ?_, src_list hh hl1, x₄, ?_, ?_⟩ (by decide)
        · rw [sizeLine_eq]; omega
        · intro C i v s₃ m₃ hP hn' hm hk'
          obtain ⟨k, hkk, u, rfl⟩ := paired_get hys i v (by simpa using hP)
          have hev := mem_evens.mp (List.mem_of_getElem? hkk)
          have hlen : (l'.take k).length = k := by simp; omega
          refine nCall1 rfl (nm_turned (B₄.keeps hk') (e.comp rfl _ _) rfl (wpN_of (nmK rfl rfl hn' hm (by decide) ⟨kp87 (B₄.keeps hk'), ?_⟩)))
          refine turned_spec (wd := l'.take k) (B₄.keeps hk') (ok1.le (by omega)) (by omega) (by omega) (low_take hlo k) fun t₅ s₅ K₅ => ⟨fun k' _ hv => ?_, K₅⟩
          obtain ⟨u', e'⟩ := hv
          have e1 : S (l'.take k) = S (l'.take k') := by injection e'
          have e2 : l'.take k = l'.take k' := by
            have := congrArg (fun x : Str => x.cps.toList) e1
            simpa using this
          rw [← e2]
          exact ⟨_, rfl⟩
        · intro D2 s₅ zs vs x₅ hs₅ hD2 hD2L hl2 hlen hP hF
          have hvs : vs = ys.toList := List.ext_getElem? fun j => by
            by_cases hj : j < ys.size
            · have hj' : j < vs.length := by omega
              have := hP j vs[j] (List.getElem?_eq_getElem hj')
              rw [List.getElem?_eq_getElem hj', Array.getElem?_toList, this]
            · rw [List.getElem?_eq_none (by omega), List.getElem?_eq_none (by simp; omega)]
          subst hvs
          have hzs : Paired (fun k v => StrV (l'.take k).reverse v) (evens l'.length) zs.toList := paired_of hys hF fun k v y hk hr hf => hf k hk hr
          have ho₅ : PlainL s₅.heap a its := by
            obtain ⟨o, n, q, rest⟩ := ho₄
            exact ⟨o, n, hs₅ _ _ ha q, rest⟩
          have hp₅ : Paired (ShV [a, env.locals, s.heap.objs.size + 1] s₅.heap) acc its.toList := shs_up hp₄ fun b o hb q => hs₅ _ _ (fun e => hb (by simp [e])) q
          have hl1₅ : s₅.heap.IsList D1 ys := hl1.at fun o q => hs₅ _ _ hD1L q
          clear hP hF hlen hs₅ hp₄ ho₄ B₄
          have hL5 : ∃ o, s₅.heap.get? env.locals = some o := let ⟨o, _, _, q, _⟩ := x₅.toInCall.ns; ⟨o, q⟩
          have hc5 : ∃ o, s₅.heap.get? (s.heap.objs.size + 1) = some o := let ⟨o, q, _⟩ := x₅.cell (Str.ofString "text") _ hc1; ⟨o, q⟩
          have ha5 : ∃ o, s₅.heap.get? a = some o := let ⟨o, _, q, _⟩ := ho₅; ⟨o, q⟩
          -- shared
          refine nExecs_cons (nAssign_Name (wpN_of (shared_expr (s₀ := s) B x₅ ok1 e k3 k4 k8 k9 rfl rfl hl1₅ hl2 (by omega) hys hzs fun la its' s₆ K₆ hnew hla hpm => ?_)) (by rfl))
          have nla : ∀ b, (∃ o, s₅.heap.get? b = some o) → la ≠ b := fun b ⟨o, q⟩ e1 => by rw [← e1, hnew] at q; cases q
          have hlaL := nla _ hL5
          have hlac := nla _ hc5
          have hlaA := nla _ ha5
          refine stL (icUp x₅ K₆) hk k5 fun s₇ x₇ hs₇ => ?_
          have up₇ : ∀ b o, b ≠ env.locals → s₅.heap.get? b = some o → s₇.heap.get? b = some o := fun b o hb q => hs₇ _ _ hb (kHk K₆ _ _ q)
          have ho₇ : PlainL s₇.heap a its := by
            obtain ⟨o, n, q, rest⟩ := ho₅
            exact ⟨o, n, up₇ _ _ ha q, rest⟩
          have hp₇ : Paired (ShV [a, env.locals, s.heap.objs.size + 1] s₇.heap) acc its.toList := shs_up hp₅ fun b o hb q => up₇ _ _ (fun e => hb (by simp [e])) q
          have hla₇ : s₇.heap.IsList la its' := hla.at fun o q => hs₇ _ _ hlaL q
          obtain ⟨asm, hrd⟩ := rd_of dS hla₇ (paired_imp hpm fun _ _ r => rdS.mpr r)
          clear hs₇ up₇ hla hnew ho₅ hp₅ x₅ hl1 hl1₅ hl2
          -- if shared == []
          refine nExecs_cons (nIf (wpN_of (wpAny_isTrue_Compare1 (NameLC x₇ hk k5 rfl (list0 ?_) (by decide)))))
          refine SeqAt.compareEq_shaped (Reads.keeps (push_hk _) hrd) (reads_list_at (Heap.get?_push_size _ rfl) rfl rfl .nil) (shaped_L (low_mirrors hlo)) shaped_nil ok1.line (wpAny_truthy_bool ?_)
          rw [eqv_nil]
          have K78 := kPush (s := s₇) { cls := .type "list", data := .seq #[] } s₇.toks
          have x₈ := icUp x₇ K78
          have ho₈ : PlainL _ a its := ho₇.keeps (kHk K78)
          have hp₈ := shs_up hp₇ fun b o _ q => kHk K78 b o q
          have hla₈ := hla₇.at fun o q => kHk K78 _ _ q
          clear x₇ ho₇ hp₇ hla₇ hrd
          by_cases hm : mirrors l' = []
          · rw [show ((mirrors l').map dS).isEmpty = true by rw [hm]; rfl]
            simp only [if_true]
            refine nExecs_cons (wpN_of (wpAny_Return_some (ct_ret x₈ hk k1 k2 hc1 (by rw [if_neg (by decide), if_neg (by decide), if_neg (by decide)]; exact m1) m2 ho₈ hp₈ fun T C t₂ s₃ K hT hC => ?_)))
            have e1 : (cut l).1 = acc := by rw [hc1', cut_stop hm]; simp
            have e2 : (cut l).2 = l' := by rw [hc2', cut_stop hm]
            rw [← e1] at hC
            rw [← e2] at hT
            exact h T C t₂ s₃ K hT hC
          · rw [show ((mirrors l').map dS).isEmpty = false by simp [hm]]
            simp only [Bool.false_eq_true, if_false]
            refine nExecs_nil ?_
            obtain ⟨lv, hlast, u, rfl⟩ := paired_last hpm hm
            rw [lastOf_last hm] at hlast
            have hleast := least_of hm
            have hstep := cut_step hleast
            have hmir := mir_iff.mp hleast.2.1
            have hpl := hleast.1.length_le
            have hne : mirrors l' ≠ [] := hm
            refine nExecs_cons (wpN_of (wpAny_Expr (wpAny_Call_append rfl (by rfl) (by rfl) rfl (NameLC x₈ hk k2 (by rw [if_neg (by decide), if_neg (by decide), if_neg (by decide)]; exact m1) ⟨a, its, rfl, ho₈, NameLC x₈ hk k5 rfl (list_append_plainL ho₈ (fun h' ho₉ hs₉ => ?_) (by rw [sizeLine_eq]; omega)) (by decide)⟩ (by decide))) (by rw [he]; rfl) (by rfl)))
            have x₉ := icWalked (wr := [a]) (tk := s₇.toks) x₈ (fun b o hb q => hs₉.extBut b o (by simpa using hb) q) (by simpa using Ne.symm ha) (fun n c hm => by simpa using hca n c hm) (by simpa using hsa)
            have hp₉ := shs_up hp₈ fun b o hb q => hs₉.extBut b o (fun e => hb (by simp [e])) q
            have hla₉ := hla₈.at fun o q => hs₉.extBut _ o hlaA q
            refine nExecs_cons (nAssign_Name (wpN_of (sub_from (NameCC x₉ hk k1 hc1 m2 ⟨l', t', rfl, by omega, aCall1 rfl (nm_len (B.keeps (icKeep x₉)) e k7 (sub_last (NameLC x₉ hk k5 rfl ⟨la, its', _, rfl, hla₉, hlast, fun s₁₀ K₁₀ => ⟨kp_builtin, PyProof.Rows.len_str (by simp [Str.length]; omega) ⟨(lastOf (mirrors l')).length, _, rfl, hpl, fun t₁₁ s₁₁ K₁₁ => ?_⟩⟩⟩ (by decide))))⟩ (by decide)))) (by rfl))
            have K₉ := kTrans K₁₀ (kTrans (kTok _) K₁₁)
            refine stC (icUp x₉ K₉) hk k1 hc1 fun s₁₂ x₁₂ hs₁₂ => nExecs_nil ⟨(l'.drop (lastOf (mirrors l')).length).length, by simp; omega, _, _, _, t₁₁, its.push (.ref la), acc ++ [mirrors l'], x₁₂, ?_, ?_, rfl, low_drop hlo _, ?_, ?_, ?_, ?_, ?_⟩
            · rw [if_neg (by decide), if_neg (by decide), if_neg (by decide)]; exact m1
            · exact if_pos rfl
            · obtain ⟨o, n, q, rest⟩ := ho₉
              exact ⟨o, n, hs₁₂ _ _ (Ne.symm hca1) (kHk K₉ _ _ q), rest⟩
            · rw [Array.toList_push]
              refine (shs_up hp₉ fun b o hb q => hs₁₂ _ _ (fun e => hb (by simp [e])) (kHk K₉ _ _ q)).snoc ?_
              exact ⟨la, its', rfl, by simp [hlaA, hlaL, hlac], hla₉.at fun o q => hs₁₂ _ _ hlac (kHk K₉ _ _ q), hpm⟩
            · simp; omega
            · rw [hc1', hstep]; simp
            · rw [hc2', hstep]
  · refine ⟨_, _, l, t, #[], [], x₂, rfl, rfl, rfl, hlow, ho₂, .nil, by simp, by simp, rfl⟩
end Mine

end

section
set_option maxRecDepth 100000
namespace Mine
open PySem PySem.W PySem.Calls PyProof.Rows
open Sem (wp)
section
variable {prog : Program} {w : World} {A : Around} {E : Value → Shared → Prop} {s : Shared} {env : Env} {Q : Value → Shared → Prop}
/-- value[i] of a text -/
theorem sub_item {value slice : Expr} {pos : Pos} (h : wpAny (model prog w) A (eval value env) (fun o s₁ => ∃ l t, o = .str (S l) t ∧ l.length ≤ 1000 ∧ wpAny (model prog w) A (eval slice env) (fun v s₂ => ∃ (k : Nat) (u : Tok) (c : Nat), v = .int (k : Int) u ∧ l[k]? = some c ∧ ∀ t' s', Keeps s₂ s' → Q (.str (S [c]) t') s') E s₁) E s)
    (hs : ∀ x t i u, subscripted slice false (.str x t) (.int i u) = operate [.str x t, .int i u] (getItem (.str x t) (.int i u)) := by intro _ _ _ _; with_unfolding_all rfl) :
    wpAny (model prog w) A (eval (.Subscript value slice pos) env) Q E s := by
  refine Subscript_ (wpAny_mono h (fun o s₁ h₁ => ?_) fun _ _ q => q)
  obtain ⟨l, t, rfl, hz, h₂⟩ := h₁
  refine wpAny_mono h₂ (fun v s₂ h₃ => ?_) fun _ _ q => q
  obtain ⟨k, u, c, rfl, hk, hq⟩ := h₃
  have hkl : k < l.length := (List.getElem?_eq_some_iff.mp hk).1
  refine tail_of_ItemOn (ops := [.str (S l) t, .int (k : Int) u]) ⟨"str", _, F.slot_str_getitem.lookup, typeIs_str _ _ _, P.getItem_str ?_ ?_ (hq _ _ (kTok _))⟩ (hs _ _ _ _) (fun r => ltg_str)
  · rw [Bool.or_eq_false_iff]; constructor <;> rw [decide_eq_false_iff_not] <;> omega
  · have e : seqIndex? (k : Int) (S l).length = some k := by
      unfold seqIndex?
      simp [Str.length]
      omega
    rw [e]
    simpa using hk
theorem add_S {a b : List Nat} {t u : Tok} (hz : a.length + b.length ≤ 1000) (h : ∀ t' s', Keeps s s' → Q (.str (S (a ++ b)) t') s') : wpAny (model prog w) A (binaryOp .Add (.str (S a) t) (.str (S b) u)) Q E s := by
  refine PyProof.Rows.add_str (fun t' tk => ?_) (by rw [sizeLine_eq]; simp [Str.length]; omega)
  have e : S a ++ S b = S (a ++ b) := by
    show Str.mk _ = _
    simp
  rw [e]
  exact h _ _ (kTok _)
end
section
variable {prog : Program} {w : World} {A : Around} {E : Value → Shared → Prop} {s : Shared} {env : Env} {Q : Unit → Shared → Prop}
theorem hk_ext {h h' : Heap} (x : Heap.ExtBut h.objs.size h h') : Hk h h' := fun b o q => x b o (Nat.ne_of_lt (Heap.lt_size q)) q
/-- x1, x2, x3 = a list -/
theorem unpack3L {x1 x2 x3 : Str} {p1 p2 p3 pos : Pos} {k : Nat} {D : Addr} {y1 y2 y3 : Value} (hh : A.handled = none) (hl : s.heap.IsList D #[y1, y2, y3])
    (h : ∀ h', Hk s.heap h' → wpAny (model prog w) A (storeName env x1 y1) (fun _ s1 => wpAny (model prog w) A (storeName env x2 y2) (fun _ s2 => wpAny (model prog w) A (storeName env x3 y3) Q E s2) E s1) E { s with heap := h' }) :
    wpAny (model prog w) A (assign (.Tuple [.Name x1 p1, .Name x2 p2, .Name x3 p3] k pos) env (.ref D)) Q E s := by
  rw [assign_Tuple]
  refine wpAny_bind (wpAny_standAt ?_)
  show wpAny _ _ (holding [.ref D] (unpackItems (.ref D) 3 none) >>= fun xs => assignInOrder [assign (.Name x1 p1) env, assign (.Name x2 p2) env, assign (.Name x3 p3) env] xs) _ _ _
  refine wpAny_bind (wpAny_holding (kun_itemsOf (items := #[y1, y2, y3]) hh hl fun h' he' => ?_))
  exact assignInOrder_cons (assign_Name (wpAny_mono (h h' (hk_ext he')) (fun _ _ q => assignInOrder_cons (assign_Name (wpAny_mono q (fun _ _ q => assignInOrder_cons (assign_Name (wpAny_mono q (fun _ _ q => assignInOrder_nil q) fun _ _ q => q))) fun _ _ q => q))) fun _ _ q => q))
/-- x1, x2 = a tuple -/
theorem unpack2T {x1 x2 : Str} {p1 p2 pos : Pos} {k : Nat} {D : Addr} {y1 y2 : Value} (hh : A.handled = none) (hl : s.heap.IsTuple D #[y1, y2])
    (h : ∀ h', Hk s.heap h' → wpAny (model prog w) A (storeName env x1 y1) (fun _ s1 => wpAny (model prog w) A (storeName env x2 y2) Q E s1) E { s with heap := h' }) :
    wpAny (model prog w) A (assign (.Tuple [.Name x1 p1, .Name x2 p2] k pos) env (.ref D)) Q E s := by
  rw [assign_Tuple]
  refine wpAny_bind (wpAny_standAt ?_)
  show wpAny _ _ (holding [.ref D] (unpackItems (.ref D) 2 none) >>= fun xs => assignInOrder [assign (.Name x1 p1) env, assign (.Name x2 p2) env] xs) _ _ _
  refine wpAny_bind (wpAny_holding (unpackItems_tuple (items := #[y1, y2]) hh hl fun h' he' => ?_))
  exact assignInOrder_cons (assign_Name (wpAny_mono (h h' (hk_ext he')) (fun _ _ q => assignInOrder_cons (assign_Name (wpAny_mono q (fun _ _ q => assignInOrder_nil q) fun _ _ q => q))) fun _ _ q => q))
/-- targets unpacked from a value of the path -/
theorem nAssign_Tuple {elts k tpos value pos} {Q : Flow → Shared → Prop}
    (h : wpN (model prog w) A (eval value env) (fun v s₁ => wpAny (model prog w) A (assign (.Tuple elts k tpos) env v) (fun _ => Q .next) E s₁) E s)
    (hs : swapsWithSole [.Tuple elts k tpos] value pos.line env = pure false := by rfl)
    (hw : swappedStores [.Tuple elts k tpos] value env = pure none := by rfl) :
    wpN (model prog w) A (exec (.Assign [.Tuple elts k tpos] value pos) env) Q E s := by
  rw [exec_Assign]
  refine wpN_bind (wpN_standAt ?_)
  rw [hs]
  refine wpN_bind (wpN_pure ?_)
  rw [if_neg (by decide)]
  refine wpN_bind (wpN_mono h (fun v s₁ h₁ => ?_) fun _ _ x => x)
  rw [hw]
  refine wpN_bind (wpN_pure ?_)
  show wpN _ A (do assignAll v [assign (.Tuple elts k tpos) env]; pure .next) Q E s₁
  exact wpN_leaf (wpAny_mono h₁ (fun _ _ x => wpN_pure x) fun _ _ x => x)
end
end Mine

end

section
set_option maxRecDepth 100000
namespace Mine
open PySem PySem.W PySem.Calls PyProof.Rows
open Sem (wp)
section
variable {prog : Program} {w : World} {A : Around} {E : Value → Shared → Prop} {s : Shared} {env : Env}
/-- the loop of a comprehension whose name is captured; no tests, nothing raises -/
theorem xCompLoop {elt iter : Expr} {x : Str} {px : Pos} {scope : Scope} {pos : Pos} {I D c : Addr} {fp wr : List Addr} {n : Nat} {P : Nat → Value → Prop} {St : Nat → Heap → Prop} {R : Result → Shared → Prop}
    {cenv : Env} {m : Str → Option Value} (W : Walks prog w A I fp wr n P St) (F : Value → Value → Prop)
    (hk : cenv.scope.kind = .function) (hx : cenv.kindOf x = some .cell) (hcl : cenv.cells.lookup x = some c)
    (hDC : D ≠ cenv.locals) (hDf : D ∉ fp) (hCf : cenv.locals ∉ fp) (hcf : c ∉ fp) (hcD : c ≠ D) (hcC : c ≠ cenv.locals)
    (hst : St 0 s.heap) (hacc : s.heap.PlainList D #[]) (hn : s.heap.Ns cenv.locals m) (hc0 : s.heap.IsCell c none)
    (helt : ∀ i v s₂, P i v → s₂.heap.IsCell c (some v) → (∀ b o, b ≠ cenv.locals → b ≠ c → b ∉ wr → b ≠ D → s.heap.get? b = some o → s₂.heap.get? b = some o) →
      wpN (model prog w) A (eval elt cenv) (fun y s₃ => F v y ∧ Keeps s₂ s₃) (fun _ _ => False) s₂)
    (hR : ∀ h' tk ys (vs : List Value), h'.Ns cenv.locals m → h'.IsList D ys → vs.length = n → (∀ j v, vs[j]? = some v → P j v) → Paired F vs ys.toList →
      (∀ b o, b ≠ cenv.locals → b ≠ c → b ∉ wr → b ≠ D → s.heap.get? b = some o → h'.get? b = some o) → R (.ok .next) { s with heap := h', toks := tk })
    (hsz : n ≤ sizeLine) :
    codeN (model prog w) A (.compLoop (.ListComp elt [⟨.Name x px, iter, [], 0⟩] scope pos) 0 (.ref I) (.ref D) cenv) R s := by
  refine codeN_loop rfl rfl
    (fun k s' => ∃ h' tk cv ys, ∃ vs : List Value, s' = { s with heap := h', toks := tk } ∧ St vs.length h' ∧ h'.PlainList D ys ∧ h'.Ns cenv.locals m ∧ h'.IsCell c cv ∧ (∀ j v, vs[j]? = some v → P j v) ∧
      Paired F vs ys.toList ∧ vs.length ≤ n ∧ k = n + 1 - vs.length ∧
      (∀ b o, b ≠ cenv.locals → b ≠ c → b ∉ wr → b ≠ D → s.heap.get? b = some o → h'.get? b = some o)) ?_ (n + 1)
    ⟨s.heap, s.toks, none, #[], [], rfl, hst, hacc, hn, hc0, by simp, by simpa using Paired.nil, Nat.zero_le _, rfl, fun _ _ _ _ _ _ e => e⟩
  rintro k s' ⟨H, tk, cv, ys, vs, rfl, hst', hacc', hn', hcv, hP, hF, hi, rfl, hk'⟩
  have hCw : cenv.locals ∉ wr := fun h => hCf (W.sub _ h)
  have hDw : D ∉ wr := fun h => hDf (W.sub _ h)
  have hcw : c ∉ wr := fun h => hcf (W.sub _ h)
  show wpN _ _ ((compTurn (.ListComp elt [⟨.Name x px, iter, [], 0⟩] scope pos) 0 (.ref I) (.ref D) cenv).onRaise (fun x => do noteFrame x cenv; theTreesLotGoes x)) _ _ _
  refine wpN_onRaise (wpN_mono (E := fun _ _ => False) ?_ (fun _ _ q => q) fun _ _ q => q.elim)
  rw [compTurn_list1]
  refine wpN_bind (wpN_standAt ?_)
  by_cases hlt : vs.length < n
  · refine wpN_leaf (W.item vs.length _ _ _ hlt hst' fun v h₁ tk₁ hPv hst₁ hk₁ => ?_)
    refine wpN_bind (wpN_eq rfl ?_)
    have hcv₁ : h₁.IsCell c cv := by obtain ⟨o, q, d⟩ := hcv; exact ⟨o, hk₁ _ _ hcw q, d⟩
    refine wpN_leaf (wpAny_assign_Name (wpAny_storeName_cell hk hx hcl hcv₁ fun h₂ hc₂ hs₂ => ?_))
    have up₂ : ∀ b o, b ≠ c → b ∉ wr → H.get? b = some o → h₂.get? b = some o := fun b o hbC hbf e => hs₂.extBut b o hbC (hk₁ b o hbf e)
    have hst₂ : St (vs.length + 1) h₂ := W.frame _ _ _ hst₁ fun b hb o e => hs₂.extBut b o (fun h => hcf (h ▸ hb)) e
    have hn₂ : h₂.Ns cenv.locals m := (hn'.at' fun o e => hk₁ _ o hCw e).sameBut hs₂ (Ne.symm hcC)
    refine wpN_bind (wpN_bind (wpN_mono (helt vs.length v _ hPv hc₂ (fun b o hbC hbc hbf hbD e => up₂ b o hbc hbf (hk' b o hbC hbc hbf hbD e))) (fun y s₄ h₄ => ?_) fun _ _ e => e))
    obtain ⟨hFy, h₄, tk₄, rfl, hk₄⟩ := h₄
    have hacc₄ : h₄.PlainList D ys := hacc'.at fun o e => hk₄ _ o (up₂ D o (Ne.symm hcD) hDw e)
    have hys : ys.size ≤ sizeLine := by
      have e1 := hF.length
      have e4 : ys.toList.length = ys.size := by simp
      omega
    refine wpN_leaf (wpAny_list_append_plain (hsz := hys) hacc₄ fun h₅ hl₅ hs₅ => ?_)
    refine wpN_pure (wpN_pure ⟨rfl, ?_⟩)
    have hP' : ∀ j u, (vs ++ [v])[j]? = some u → P j u := fun j u hj => by
      rcases Nat.lt_trichotomy j vs.length with h | h | h
      · exact hP j u (by rwa [List.getElem?_append_left h] at hj)
      · subst h; simp at hj; subst hj; exact hPv
      · have hnone : (vs ++ [v])[j]? = none := List.getElem?_eq_none (by rw [List.length_append, List.length_singleton]; omega)
        rw [hnone] at hj; cases hj
    refine ⟨n + 1 - (vs.length + 1), by omega, h₅, tk₄, some v, ys.push y, vs ++ [v], rfl, ?_, hl₅, (hn₂.keeps hk₄).sameBut hs₅ (Ne.symm hDC), ?_, hP', ?_, (by rw [List.length_append, List.length_singleton]; exact hlt), (by rw [List.length_append, List.length_singleton]),
      fun b o hbC hbc hbf hbD e => hs₅.extBut b o hbD (hk₄ b o (up₂ b o hbc hbf (hk' b o hbC hbc hbf hbD e)))⟩
    · have := W.frame _ _ h₅ hst₂ fun b hb o e => hs₅.extBut b o (fun h => hDf (h ▸ hb)) (hk₄ b o e)
      simpa using this
    · exact (hc₂.keeps hk₄).sameBut hs₅ hcD
    · rw [Array.toList_push]
      exact hF.snoc hFy
  · have hnn : vs.length = n := by omega
    refine wpN_leaf (W.done _ _ _ (hnn ▸ hst') fun h' tk' hk₁ => ?_)
    refine wpN_pure ?_
    have hacc₁ : h'.PlainList D ys := hacc'.at fun o e => hk₁ _ o hDw e
    exact hR h' tk' ys vs (hn'.at' fun o e => hk₁ _ o hCw e) hacc₁.isList hnn hP hF fun b o h1 h2 h3 h4 e => hk₁ b o h3 (hk' b o h1 h2 h3 h4 e)
/-- the frame of such a comprehension -/
theorem newEnvX {M : Model} {scope : Scope} {cl : List (Str × Addr)} {x : Str} {Q : Env → Shared → Prop} (hk : scope.kind = .function)
    (hcf : ∀ n acc, cellsFrom n scope.names acc = (x, n) :: acc) (hpc : ∀ h, pushCells h scope.names = h.push { cls := .type "cell", data := .cell none })
    (hQ : Q (newEnv scope s.heap.objs.size env.globals ((x, s.heap.objs.size + 1) :: cl) env.qual none .none (some env) builtinsNs)
      { s with heap := (s.heap.push { cls := .type "dict", data := .dict #[] }).push { cls := .type "cell", data := .cell none } }) :
    wpAny M A (newFunctionEnv scope env.globals cl [] env.qual none .none (some env)) Q E s := by
  simp only [newFunctionEnv, Option.isSome_some, if_true]
  refine wpAny_bind (wpAny_alloc ?_)
  refine wpAny_bind (wpAny_layCells _ (fun name kind cells => by cases hkc : kind == NameKind.cell <;> simp [hkc]) _ _ _ _ ?_)
  rw [show ({ s with heap := s.heap.push { cls := .type "dict", data := .dict #[] } } : Shared).heap.objs.size = s.heap.objs.size + 1 from Heap.size_push ..]
  rw [hcf, hpc]
  exact wpAny_bind (wpAny_pure (wpAny_pure hQ))
end
end Mine

end

section
set_option maxRecDepth 100000
namespace Mine
open PySem PySem.W PySem.Calls PyProof.Rows
open Sem (wp)
section
variable {prog : Program} {w : World} {A : Around} {E : Value → Shared → Prop} {s : Shared} {env : Env}
/-- y = [elt for x in iter] on the path, x captured -/
theorem xAsgComp {elt iter : Expr} {x y : Str} {px py : Pos} {scope : Scope} {cl : List (Str × Addr)} {pos spos : Pos} {Q : Flow → Shared → Prop} {s₀ : Shared} {cm : Str → Option Value} (F : Value → Value → Prop)
    (hsw : swapsWith (.ListComp elt [⟨.Name x px, iter, [], 0⟩] scope pos) (some (.Name y py)) spos.line env = pure true)
    (hclos : closureFor scope env = pure cl) (hcf : ∀ n acc, cellsFrom n scope.names acc = (x, n) :: acc) (hpc : ∀ h, pushCells h scope.names = h.push { cls := .type "cell", data := .cell none }) (hkind : scope.kind = .function)
    (hnames : ∀ z ∈ scope.names, z.2 = .local → scope.names.lookup z.1 = some .local) (hx : ∀ cl C, (compEnvC scope cl C env).kindOf x = some .cell)
    (hy : env.kindOf y = some .local) (hp : (env.scope.kind == .class || (env.scope.kind == .module && env.locals != env.globals)) = false) (hs : ∀ x, foldedSetIterable iter env x = pure x)
    (h : wpAny (model prog w) A (eval iter env) (fun xv s₁ => ∃ n P m, n ≤ sizeLine ∧ Src prog w A xv n P s₁ ∧ InCallC s₀ env.locals m env.cells cm s₁ ∧
      (∀ C c i v s₃, P i v → s₃.heap.IsCell c (some v) → Hk s₁.heap s₃.heap → wpN (model prog w) A (eval elt (compEnvC scope ((x, c) :: cl) C env)) (fun y s₄ => F v y ∧ Keeps s₃ s₄) (fun _ _ => False) s₃) ∧
      ∀ D s' ys (vs : List Value), InCallC s₀ env.locals (fun z => if z = y then some (.ref D) else m z) env.cells cm s' → (∀ b o, b ≠ env.locals → s₁.heap.get? b = some o → s'.heap.get? b = some o) → s₁.heap.get? D = none → D ≠ env.locals → s'.heap.IsList D ys → vs.length = n → (∀ j v, vs[j]? = some v → P j v) → Paired F vs ys.toList → Q .next s') E s) :
    wpN (model prog w) A (exec (.Assign [.Name y py] (.ListComp elt [⟨.Name x px, iter, [], 0⟩] scope pos) spos) env) Q E s := by
  rw [exec_Assign_Name_used _ _ _ _ hsw]
  refine wpN_bind (wpN_standAt (wpN_bind ?_))
  show wpN _ A (do let _ ← comprehension (.ListComp elt [⟨.Name x px, iter, [], 0⟩] scope pos) scope env _ (newList []) false (eval iter env) (some (assign (.Name y py) env))) _ _ s
  refine wpN_bind ?_
  unfold comprehension
  rw [hclos]
  refine wpN_leaf (wpAny_mono h (fun xv s₁ h₁ => ?_) fun _ _ e => e)
  obtain ⟨n, P, m, hsz, hsrc, X, helt, hQ⟩ := h₁
  refine wpN_bind (wpN_standAt ?_)
  refine wpN_bind (wpN_eq (hs xv) ?_)
  refine wpN_bind (wpN_holding (wpN_of (hsrc _ _ fun I fp wr St h₂ W hst hfp hwr hk => ?_)))
  refine wpN_standIf ?_
  refine wpN_leaf (wpAny_newObj_type (wpN_bind (wpN_pure (wpN_leaf (newEnvX (x := x) hkind hcf hpc ?_)))))
  dsimp only
  generalize hH2 : h₂.push { cls := .type "list", dict := none, data := .seq ([] : List Value).toArray } = H2
  have hC : H2.objs.size = h₂.objs.size + 1 := by rw [← hH2, Heap.size_push]
  generalize hH3 : (H2.push { cls := .type "dict", data := .dict #[] }).push { cls := .type "cell", data := .cell none } = h₃
  have hDC : h₂.objs.size ≠ H2.objs.size := by rw [hC]; exact Nat.ne_of_lt (Nat.lt_succ_self _)
  have hcC : (H2.objs.size + 1 : Nat) ≠ H2.objs.size := Nat.succ_ne_self _
  have hcD : (H2.objs.size + 1 : Nat) ≠ h₂.objs.size := by rw [hC]; exact Nat.ne_of_gt (Nat.lt_succ_of_lt (Nat.lt_succ_self _))
  have below : ∀ b, b < h₂.objs.size → b ≠ H2.objs.size ∧ b ≠ h₂.objs.size ∧ b ≠ H2.objs.size + 1 := fun b hb => ⟨by rw [hC]; exact Nat.ne_of_lt (Nat.lt_succ_of_lt hb), Nat.ne_of_lt hb, by rw [hC]; exact Nat.ne_of_lt (Nat.lt_succ_of_lt (Nat.lt_succ_of_lt hb))⟩
  have hDf : h₂.objs.size ∉ fp := fun hm => Nat.lt_irrefl _ (hfp _ hm)
  have hCf : H2.objs.size ∉ fp := fun hm => by have := hfp _ hm; rw [hC] at this; exact Nat.lt_irrefl _ (Nat.lt_of_succ_lt this)
  have hcf' : (H2.objs.size + 1 : Nat) ∉ fp := fun hm => by have := hfp _ hm; rw [hC] at this; exact Nat.lt_irrefl _ (Nat.lt_of_succ_lt (Nat.lt_of_succ_lt this))
  have up3 : ∀ b o, H2.get? b = some o → h₃.get? b = some o := fun b o e => by rw [← hH3]; exact Heap.get?_push_of_some _ (Heap.get?_push_of_some _ e)
  have old : ∀ b o, h₂.get? b = some o → h₃.get? b = some o := fun b o e => up3 b o (hH2 ▸ Heap.get?_push_of_some _ e)
  have hacc : h₃.PlainList h₂.objs.size #[] := ⟨_, up3 _ _ (hH2 ▸ Heap.get?_push_size _ rfl)⟩
  have hns₁ : h₃.Ns H2.objs.size (fun _ => none) := by
    have := Heap.Ns.new H2 (.type "dict")
    exact this.at' fun o e => by rw [← hH3]; exact Heap.get?_push_of_some _ e
  have hcv : h₃.IsCell (H2.objs.size + 1) none := by
    have e : h₃.get? (H2.push { cls := .type "dict", data := .dict #[] }).objs.size = some { cls := .type "cell", data := .cell none } := by rw [← hH3]; exact Heap.get?_push_size _ rfl
    rw [Heap.size_push] at e
    exact ⟨_, e, rfl⟩
  have hst₁ : St 0 h₃ := W.frame _ _ _ hst fun b _ o e => old b o e
  have hD2 : h₂.get? h₂.objs.size = none := fresh_none (Nat.le_refl _)
  have hv : ∀ z ∈ (scope.names.filter fun x => (x.2 == .local || x.2 == .cell) && x.1 != (".0" : Str)).reverse, z.2 = .local →
      Env.kindOf (compEnvC scope ((x, H2.objs.size + 1) :: cl) H2.objs.size env) z.1 = some .local := fun z hx hl => lookup_relabel_local (hnames z (List.mem_filter.mp (List.mem_reverse.mp hx)).1 hl)
  have hv' : ∀ z ∈ (scope.names.filter fun x => (x.2 == .local || x.2 == .cell) && x.1 != (".0" : Str)).reverse.drop 1 ++ (scope.names.filter fun x => (x.2 == .local || x.2 == .cell) && x.1 != (".0" : Str)).reverse.take 1,
      z.2 = .local → Env.kindOf (compEnvC scope ((x, H2.objs.size + 1) :: cl) H2.objs.size env) z.1 = some .local := fun z hx hl => by
    rcases List.mem_append.mp hx with h1 | h1
    · exact hv z (List.mem_of_mem_drop h1) hl
    · exact hv z (List.mem_of_mem_take h1) hl
  have nw : ∀ b o, s₁.heap.get? b = some o → b ∉ wr := fun b o e hb => by rw [hwr b hb] at e; cases e
  have loop : ∀ s₄ : Shared, s₄ = { s₁ with heap := h₃, toks := s₁.toks } → codeN (model prog w) A (.compLoop (.ListComp elt [⟨.Name x px, iter, [], 0⟩] scope pos) 0 (.ref I) (.ref h₂.objs.size) (compEnvC scope ((x, H2.objs.size + 1) :: cl) H2.objs.size env))
      (fun r s' => ∃ h' tk ys, ∃ vs : List Value, r = .ok .next ∧ s' = { s₁ with heap := h', toks := tk } ∧ h'.Ns H2.objs.size (fun _ => none) ∧ h'.IsList h₂.objs.size ys ∧ vs.length = n ∧ (∀ j v, vs[j]? = some v → P j v) ∧ Paired F vs ys.toList ∧
        (∀ b o, b ∉ wr → h₂.get? b = some o → h'.get? b = some o)) s₄ := by
    rintro s₄ rfl
    refine xCompLoop (cenv := compEnvC scope ((x, H2.objs.size + 1) :: cl) H2.objs.size env) (c := H2.objs.size + 1) W F (by simp [compEnvC, relabel, hkind]) (hx _ _) (by simp [compEnvC]) hDC hDf hCf hcf' hcD hcC hst₁ hacc hns₁ hcv
      (fun i v s₃ hv hm hk' => helt _ _ i v s₃ hv hm fun b o e => hk' b o (below b (Heap.lt_size (hk _ _ e))).1 (below b (Heap.lt_size (hk _ _ e))).2.2 (nw b o e) (below b (Heap.lt_size (hk _ _ e))).2.1 (old b o (hk _ _ e)))
      (fun h' tk ys vs hn ha hlen hP hF hk' => ⟨h', tk, ys, vs, rfl, rfl, hn, ha, hlen, hP, hF, fun b o hb e => hk' b o (below b (Heap.lt_size e)).1 (below b (Heap.lt_size e)).2.2 hb (below b (Heap.lt_size e)).2.1 (old b o e)⟩) hsz
  have start := nCompStart (loop _ rfl) (W.self 0 _ _ _ hst₁ (loop _ rfl))
  refine wpN_holding (wpN_bind (wpN_attempt (wpN_holding (wpN_run (codeN_mono start fun r s' hr => ?_)))))
  obtain ⟨h', tk, ys, vs, rfl, rfl, hnC, hlD, hlen, hP, hF, hk'⟩ := hr
  have hL : ∃ o, s₁.heap.get? env.locals = some o := let ⟨o, _, _, q, _⟩ := X.toInCall.ns; ⟨o, q⟩
  obtain ⟨oL, hoL⟩ := hL
  have hLlt := Heap.lt_size (hk _ _ hoL)
  have hLC : env.locals ≠ H2.objs.size := (below _ hLlt).1
  have hLD : env.locals ≠ h₂.objs.size := (below _ hLlt).2.1
  have hup : ∀ b o, s₁.heap.get? b = some o → h'.get? b = some o := fun b o e => hk' b o (nw b o e) (hk b o e)
  refine wpN_bind (wpN_rule (wpN_bind (wpN_holding (wpN_of (wpAny_assign_Name (wpAny_storeName_local hy (X.toInCall.ns.at' fun o e => hup _ o e) (fun h₅ hn₅ hs₅ => ?_) hp))))))
  refine wpN_leaf (wpAny_comp_letGo (cenv := compEnvC scope ((x, H2.objs.size + 1) :: cl) H2.objs.size env) hkind _ _ (fun _ => none) hv' (hnC.sameBut hs₅ (Ne.symm hLC)) fun h₆ m₆ _ hs₆ => ?_)
  have up : ∀ b o, b ≠ env.locals → s₁.heap.get? b = some o → h₆.get? b = some o := fun b o hb e => hs₆.extBut b o (below b (Heap.lt_size (hk _ _ e))).1 (hs₅.extBut b o hb (hup b o e))
  refine wpN_pure (wpN_pure (wpN_pure ?_))
  refine hQ h₂.objs.size _ ys vs ⟨⟨?_, hn₅.sameBut hs₆ hLC, fun b o e => ?_, X.toInCall.fresh⟩, fun k c hc' => ?_, X.apart, X.above⟩ up ?_ (Ne.symm hLD) ((hlD.extBut hs₅.extBut (Ne.symm hLD)).extBut hs₆.extBut hDC) hlen hP hF
  · obtain ⟨h₁, tk₁, rfl⟩ := X.toInCall.same; exact ⟨_, _, rfl⟩
  · exact up b o (Nat.ne_of_lt (Nat.lt_of_lt_of_le (Heap.lt_size e) X.toInCall.fresh)) (X.toInCall.keep b o e)
  · obtain ⟨o, ho, hd⟩ := X.cell k c hc'
    exact ⟨o, up c o (Nat.ne_of_gt (X.above k c (mem_of_lookup hc'))) ho, hd⟩
  · cases e : s₁.heap.get? h₂.objs.size with
    | none => rfl
    | some o => rw [hk _ _ e] at hD2; cases hD2
end
end Mine

end

section
set_option maxRecDepth 100000
namespace Mine
open PySem PySem.W PySem.Calls PyProof.Rows
open Sem (wp)

/-- a half: a text of one to three signs -/
def HalfV (y : Value) : Prop := ∃ wd, StrV wd y ∧ 1 ≤ wd.length ∧ wd.length ≤ 3 ∧ Low wd
def FullV (y : Value) : Prop := ∃ wd, StrV wd y ∧ 2 ≤ wd.length ∧ wd.length ≤ 6 ∧ Low wd
theorem range_1s (n : Int) : Builtin.Range.rangeSize 0 (1 + n.fmod 3) 1 = (((1 + n.fmod 3).toNat : Nat) : Int) ∧ 1 ≤ (1 + n.fmod 3).toNat ∧ (1 + n.fmod 3).toNat ≤ 3 := by
  have h1 := Int.fmod_nonneg_of_pos n (show (0 : Int) < 3 by decide)
  have h2 := Int.fmod_lt_of_pos n (show (0 : Int) < 3 by decide)
  refine ⟨?_, by omega, by omega⟩
  rw [PySem.rangeSize_one, if_pos (by omega)]
  omega
theorem signs_join {ys : List Value} {n : Nat} (hn : ys.length = n) (h : ∀ y ∈ ys, ∃ c, c < 256 ∧ StrV [c] y) : ∃ cs : List Nat, cs.length = n ∧ Low cs ∧ StrsAre ys ((cs.map fun c => [c]).map S) := by
  induction ys generalizing n with
  | nil => exact ⟨[], by simpa using hn, (fun _ h => nomatch h), .nil⟩
  | cons y ys ih =>
    obtain ⟨cs, h1, h2, h3⟩ := ih rfl fun z hz => h z (.tail _ hz)
    obtain ⟨c, hc, t, rfl⟩ := h y (.head _)
    refine ⟨c :: cs, by simp [h1, ← hn], fun d hd => ?_, ?_⟩
    · rcases List.mem_cons.mp hd with rfl | hd
      · exact hc
      · exact h2 d hd
    · rw [List.map_cons, List.map_cons]
      exact .cons _ _ h3
theorem paired_all {α : Type} {R : α → Value → Prop} {P : Value → Prop} : ∀ {xs : List α} {ys : List Value}, Paired R xs ys → (∀ a y, R a y → P y) → ∀ y ∈ ys, P y
  | _, _, .nil, _, y, hy => (nomatch hy)
  | _, _, .cons r t, h, y, hy => by
    rcases List.mem_cons.mp hy with rfl | hy
    · exact h _ _ r
    · exact paired_all t h y hy
theorem bit_01 (a : Int) : ∃ k : Nat, Builtin.bitAnd a 1 = (k : Int) ∧ k < 2 := ⟨(a % 2).toNat, by rw [bitAnd_m1]; omega, by omega⟩
theorem three_of {ys : Array Value} (h : ys.size = 3) : ∃ a b c, ys = #[a, b, c] := by
  obtain ⟨l⟩ := ys
  match l, h with
  | [a, b, c], _ => exact ⟨a, b, c, rfl⟩
theorem two_get {a b k : Nat} (hk : k < 2) (ha : a < 256) (hb : b < 256) : ∃ c, [a, b][k]? = some c ∧ c < 256 := by
  match k, hk with
  | 0, _ => exact ⟨a, rfl, ha⟩
  | 1, _ => exact ⟨b, rfl, hb⟩

set_option maxHeartbeats 1000000 in
theorem text_spec {prog : Program} {w : World} {A : Around} {s : Shared} {Q : Value → Shared → Prop} {E : Value → Shared → Prop} {dn : Addr} {ns : Array Value} {a b : Nat} {kd tot : Int} {tp tk tt : Tok} (B : Bs w s.heap) (ok : OkA 1 A)
    (hl : s.heap.IsList dn ns) (h3 : ns.size = 3) (hi : ∀ (i : Nat) v, ns[i]? = some v → ∃ (n : Int) (t : Tok), v = .int n t) (ha : a < 256) (hb : b < 256)
    (h : ∀ l t' s', Keeps s s' → 1 ≤ l.length → l.length ≤ 40 → Low l → Q (.str (S l) t') s') :
    wpN (model prog w) A (call (.ref 82) [.ref dn, .str (S [a, b]) tp, .int kd tk, .int tot tt]) Q E s := by
  refine enterN (f := 82) (binds := [("numbers", .ref dn), ("pair", .str (S [a, b]) tp), ("kind", .int kd tk), ("total", .int tot tt)]) B ok.room rfl (by kernel_rfl) rfl rfl rfl rfl rfl rfl rfl ?_
  intro env s₁ he x
  have hk : env.scope.kind = .function := by rw [he]; rfl
  have e : EO env := ⟨hk, by rw [he]; rfl, by rw [he]; rfl⟩
  have k1 : env.kindOf "numbers" = some .local := by rw [he]; rfl
  have k2 : env.kindOf "pair" = some .cell := by rw [he]; rfl
  have k3 : env.kindOf "kind" = some .local := by rw [he]; rfl
  have k4 : env.kindOf "total" = some .local := by rw [he]; rfl
  have k5 : env.kindOf "halves" = some .local := by rw [he]; rfl
  have k6 : env.kindOf "first" = some .local := by rw [he]; rfl
  have k7 : env.kindOf "second" = some .local := by rw [he]; rfl
  have k8 : env.kindOf "third" = some .local := by rw [he]; rfl
  have k9 : env.kindOf "text" = some .local := by rw [he]; rfl
  have k10 : env.kindOf "place" = some .local := by rw [he]; rfl
  have k11 : env.kindOf "sign" = some .local := by rw [he]; rfl
  have k12 : env.kindOf "len" = some .globalImplicit := by rw [he]; rfl
  have hc1 : env.cells.lookup (Str.ofString "pair") = some (s.heap.objs.size + 1) := by rw [he]; rfl
  simp only [bindL, bindC, k1, k2, k3, k4, if_true, Option.some.injEq, reduceCtorEq, if_false] at x
  have ok1 : OkA 0 (A.deeper env) := ok.deeper env
  have hh : (A.deeper env).handled = none := ok1.hh
  have B₁ := B.keeps (icKeep x)
  have hl₁ := hl.at fun o q => icKeep x _ _ q
  have hpair : s₁.heap.IsCell (s.heap.objs.size + 1) (some (.str (S [a, b]) tp)) := x.cell (Str.ofString "pair") _ hc1
  have hcm0 : ∃ cm, InCallC s env.locals (fun y => if y = Str.ofString "total" then some (.int tot tt) else if y = Str.ofString "kind" then some (.int kd tk) else if y = Str.ofString "numbers" then some (.ref dn) else none) env.cells cm s₁ ∧ cm (Str.ofString "pair") = some (.str (S [a, b]) tp) := ⟨_, x, rfl⟩
  clear x
  obtain ⟨cm, x, hcm⟩ := hcm0
  -- halves
  refine nExecs_cons (xAsgComp (s₀ := s) (cm := cm) (cl := [(Str.ofString "pair", s.heap.objs.size + 1)]) (fun v y => HalfV y) (by rw [he]; rfl) (by rw [he]; rfl) (by intro _ _; rfl) (by intro _; rfl) rfl (by decide) (by intro _ _; rw [he]; rfl) k5 e.hp (by intro _; rfl) ?_)
  refine NameLC x hk k1 rfl ⟨ns.size, _, _, ?_, src_list hh hl₁, x, ?_, ?_⟩ (by decide)
  · rw [sizeLine_eq]; omega
  · intro C c i v s₃ hP hc hk'
    obtain ⟨n, t, rfl⟩ := hi i v hP
    have hcp : s₃.heap.IsCell (s.heap.objs.size + 1) (some (.str (S [a, b]) tp)) := hpair.keeps hk'
    have B₃ := B₁.keeps hk'
    refine wpN_of (strMeth1 (by rw [he]; rfl) (by rfl) (by rfl) F.slot_str_join F.type_str_join rfl ?_)
    refine wpAny_Constant_str ⟨_, _, rfl, ?_⟩
    refine compE (cl := [(Str.ofString "x", c), (Str.ofString "pair", s.heap.objs.size + 1)]) (fun _ => true) (fun v y => ∃ c', c' < 256 ∧ StrV [c'] y) (by rw [he]; rfl) (by decide) rfl (by decide) rfl (by intro _; rfl) ?_
    refine aCall1 rfl (nm_range B₃ (e.comp rfl _ _) (by rw [he]; rfl) ?_)
    refine wpAny_BinOp (wpAny_Constant_int (wpAny_BinOp (nmC rfl (by rw [he]; rfl) rfl hc (by decide) (wpAny_Constant_int (mod_int' (by decide) (PyProof.Rows.add_int ?_))))))
    refine ⟨kp_type, call_range_1 ?_⟩
    obtain ⟨hr1, hr2, hr3⟩ := range_1s n
    refine ⟨(1 + n.fmod 3).toNat, _, by rw [sizeLine_eq]; omega, Src.bd (src_range hh (IsRange.new _ _ _ _ _ _ _) (small_one (by omega) (by omega) (by omega) (by omega)) hr1), ⟨fun C i v s₃ m₃ E' _ _ _ hk' => tests_nil ⟨rfl, kRefl _⟩, fun C' i' v' s₅ m₅ E' hP' _ hn hm hk5 => ?_⟩, ?_⟩
    · obtain ⟨hi', u, rfl⟩ := hP'
      have up5 : Hk s₃.heap s₅.heap := fun b o q => hk5 b o (Heap.get?_push_of_some _ q)
      refine sub_item (nmC rfl (by rw [he]; rfl) rfl (hcp.keeps up5) (by decide) ⟨[a, b], tp, rfl, by simp, ?_⟩)
      refine wpAny_BinOp (wpAny_BinOp (wpAny_BinOp (nmC rfl (by rw [he]; rfl) rfl (hc.keeps up5) (by decide) (wpAny_Constant_int (floordiv_int (by decide) ?_ (Or.inl (PyProof.noPylong_small (by simp))))))))
      refine nmK rfl (by rw [he]; rfl) hn hm (by decide) (rshift_int (by omega) (wpAny_Constant_int (and_int ?_)))
      obtain ⟨k, hk1, hk2⟩ := bit_01 ((n.fdiv 3).fdiv (2 ^ (0 + (i' : Int) * 1).toNat))
      obtain ⟨c', hc1', hc2'⟩ := two_get hk2 ha hb
      exact ⟨k, _, c', by rw [hk1], hc1', fun t' s' K => ⟨⟨c', hc2', t', rfl⟩, kTrans (kTok _) K⟩⟩
    · intro D s' ys vs K hD hl' hlen hP' hF
      rw [filter_tt] at hF
      obtain ⟨cs, h1, h2, h4⟩ := signs_join (n := (1 + n.fmod 3).toNat) (ys := ys.toList) (by rw [← hlen]; exact Paired.len hF) (paired_all hF fun _ _ r => r)
      refine join_list hl' h4 ?_ fun t₇ k₇ => ?_
      · have hs : (((cs.map fun c => [c]).map S).map (·.length)).sum = cs.length := by
          simp only [List.map_map]
          have : (Str.length ∘ S ∘ fun c : Nat => [c]) = fun _ => 1 := by funext c; rfl
          rw [this, sum_ones]
        rw [hs]
        have : (Str.ofString "").length = 0 := by decide
        rw [this]; omega
      · rw [join_map, flatten_singletons]
        exact ⟨⟨cs, ⟨t₇, rfl⟩, by omega, by omega, h2⟩, kTrans (kTrans (kTok _) (kTrans (kPush _ _) K)) (kTok _)⟩
  · intro D s₄ ys vs x₄ hs₄ hD hDL hl₄ hlen hP hF
    have hys3 : ys.size = 3 := by have := hF.length; simp at this; omega
    have hhalf : ∀ y ∈ ys.toList, HalfV y := paired_all hF fun _ _ r => r
    clear hF hP hs₄ hD
    have B₄ := B.keeps (icKeep x₄)
    -- first, second, third
    refine nExecs_cons (wpN_of (Assign_Tuple (compE (cl := []) (fun _ => true) (fun v y => FullV y) (by rw [he]; rfl) (by decide) rfl (by decide) rfl (by intro _; rfl) ?_) (by rfl) (by rfl)))
    refine NameLC x₄ hk k5 rfl ⟨ys.size, _, by rw [sizeLine_eq]; omega, src_list hh hl₄, ⟨fun C i v s₃ m₃ E' _ _ _ hk' => tests_nil ⟨rfl, kRefl _⟩, fun C i v s₃ m₃ E' hP _ hn hm hk' => ?_⟩, ?_⟩ (by decide)
    · obtain ⟨wd, ⟨t, rfl⟩, h1, h2, h3⟩ := hhalf v (by simpa using Array.mem_of_getElem? hP)
      refine wpAny_BinOp (nmK rfl rfl hn hm (by decide) (sub_rev (nmK rfl rfl hn hm (by decide) ⟨wd, t, rfl, by omega, fun t' s' K => add_S (by simp; omega) fun t'' s'' K' => ⟨⟨wd ++ wd.reverse, ⟨_, rfl⟩, by simp; omega, by simp; omega, ?_⟩, kTrans K K'⟩⟩)))
      intro c hc
      rcases List.mem_append.mp hc with hc | hc
      · exact h3 c hc
      · exact h3 c (List.mem_reverse.mp hc)
    · intro D2 s₅ ys2 vs2 K₅ hD2 hl₅ hlen2 hP2 hF2
      rw [filter_tt] at hF2
      have hfull : ∀ y ∈ ys2.toList, FullV y := paired_all hF2 fun _ _ r => r
      have hys2 : ys2.size = 3 := by have := hF2.length; simp at this; omega
      have x₅ := icUp x₄ K₅
      obtain ⟨y1, y2, y3, rfl⟩ := three_of hys2
      obtain ⟨f1, ⟨t1, rfl⟩, a1, a2, a3⟩ := hfull y1 (by simp)
      obtain ⟨f2, ⟨t2, rfl⟩, b1, b2, b3⟩ := hfull y2 (by simp)
      obtain ⟨f3, ⟨t3, rfl⟩, c1, c2, c3⟩ := hfull y3 (by simp)
      refine unpack3L hh hl₅ fun h₆ K₆ => ?_
      have x₆ := icUp x₅ ⟨h₆, s₅.toks, rfl, K₆⟩
      refine stL x₆ hk k6 fun s₇ x₇ _ => stL x₇ hk k7 fun s₈ x₈ _ => stL x₈ hk k8 fun s₉ x₉ _ => ?_
      clear x₆ x₇ x₈ x₅ x₄ hfull hF2 hP2 hhalf
      -- text = first + second + third
      refine nExecs_cons (nAssign_Name (wpN_of (wpAny_BinOp (wpAny_BinOp (NameLC x₉ hk k6 rfl (NameLC x₉ hk k7 rfl (add_S (by omega) fun t₁₀ s₁₀ K₁₀ => NameLC (icUp x₉ K₁₀) hk k8 rfl (add_S (by simp; omega) fun t₁₁ s₁₁ K₁₁ => ?_) (by decide)) (by decide)) (by decide))))) (by rfl))
      refine stL (icUp x₉ (kTrans K₁₀ K₁₁)) hk k9 fun s₁₂ x₁₂ _ => ?_
      have hTl : (f1 ++ f2 ++ f3).length = f1.length + f2.length + f3.length := by simp; omega
      have hTlow : Low (f1 ++ f2 ++ f3) := fun c hc => by
        rcases List.mem_append.mp hc with hc | hc
        · rcases List.mem_append.mp hc with hc | hc
          · exact a3 c hc
          · exact b3 c hc
        · exact c3 c hc
      clear x₉
      -- if kind == 1
      refine nExecs_cons (nIf (wpN_of (wpAny_isTrue_Compare1 (NameLC x₁₂ hk k3 rfl (wpAny_Constant_int (PyProof.Rows.eq_int (wpAny_truthy_bool ?_))) (by decide)))))
      have x₁₃ := x₁₂.tok (s₁₂.toks + 1)
      have B₁₃ := B.keeps (icKeep x₁₃)
      clear x₁₂
      by_cases hk1 : (kd == 1) = true
      · rw [hk1]
        simp only [if_true]
        generalize f1 ++ f2 ++ f3 = T at hTl hTlow x₁₃
        -- place = total % (len(text) - 1)
        have hTs : (S T).length = T.length := by simp [Str.length]
        refine nExecs_cons (nAssign_Name (wpN_of (wpAny_BinOp (NameLC x₁₃ hk k4 rfl (wpAny_BinOp (aCall1 rfl (nm_len B₁₃ e k12 (NameLC x₁₃ hk k9 rfl ⟨kp_builtin, PyProof.Rows.len_str (by rw [hTs]; omega) (wpAny_Constant_int (PyProof.Rows.sub_int (mod_int' (by rw [hTs]; omega) ?_)))⟩ (by decide))))) (by decide)))) (by rfl))
        rw [hTs]
        obtain ⟨pl, hpl, hplt⟩ : ∃ p : Nat, tot.fmod ((T.length : Int) - 1) = (p : Int) ∧ p + 1 < T.length := by
          have g1 := Int.fmod_nonneg_of_pos tot (show (0 : Int) < (T.length : Int) - 1 by omega)
          have g2 := Int.fmod_lt_of_pos tot (show (0 : Int) < (T.length : Int) - 1 by omega)
          exact ⟨(tot.fmod ((T.length : Int) - 1)).toNat, by omega, by omega⟩
        rw [hpl]
        refine stL (x₁₃.tok _) hk k10 fun s₁₄ x₁₄ _ => ?_
        obtain ⟨c1', hc1'⟩ : ∃ c, T[pl + 1]? = some c := ⟨_, List.getElem?_eq_getElem hplt⟩
        obtain ⟨c2', hc2'⟩ : ∃ c, T[pl]? = some c := ⟨_, List.getElem?_eq_getElem (by omega)⟩
        have hz : T.length ≤ 1000 := by omega
        refine nExecs_cons (wpN_of (wpAny_Return_some (wpAny_BinOp (wpAny_BinOp (wpAny_BinOp ?_)))))
        refine sub_to (NameLC x₁₄ hk k9 rfl ⟨T, _, rfl, hz, NameLC x₁₄ hk k10 rfl ⟨pl, _, rfl, by omega, fun _ s₁₅ K₁₅ => ?_⟩ (by decide)⟩ (by decide))
        have x₁₅ := icUp x₁₄ K₁₅
        refine sub_item (NameLC x₁₅ hk k9 rfl ⟨T, _, rfl, hz, wpAny_BinOp (NameLC x₁₅ hk k10 rfl (wpAny_Constant_int (PyProof.Rows.add_int ⟨pl + 1, _, c1', by congr 1, hc1', fun _ s₁₆ K₁₆ => ?_⟩)) (by decide))⟩ (by decide))
        refine add_S (by simp; omega) fun _ s₁₇ K₁₇ => ?_
        have x₁₇ := icUp x₁₅ (kTrans (kTok _) (kTrans K₁₆ K₁₇))
        refine sub_item (NameLC x₁₇ hk k9 rfl ⟨T, _, rfl, hz, NameLC x₁₇ hk k10 rfl ⟨pl, _, c2', rfl, hc2', fun _ s₁₈ K₁₈ => ?_⟩ (by decide)⟩ (by decide))
        refine add_S (by simp; omega) fun _ s₁₉ K₁₉ => ?_
        have x₁₉ := icUp x₁₇ (kTrans K₁₈ K₁₉)
        refine sub_from (NameLC x₁₉ hk k9 rfl ⟨T, _, rfl, hz, wpAny_BinOp (NameLC x₁₉ hk k10 rfl (wpAny_Constant_int (PyProof.Rows.add_int ⟨pl + 2, _, by congr 1, by omega, fun _ s₂₀ K₂₀ => ?_⟩)) (by decide))⟩ (by decide))
        refine add_S (by simp; omega) fun _ s₂₁ K₂₁ => ?_
        have x₂₁ := icUp x₁₉ (kTrans (kTok _) (kTrans K₂₀ K₂₁))
        refine h _ _ _ (icKeeps x₂₁) (by simp; omega) (by simp; omega) ?_
        intro c hc
        simp only [List.mem_append, List.mem_singleton] at hc
        rcases hc with ((hc | rfl) | rfl) | hc
        · exact low_take hTlow _ c hc
        · exact hTlow _ (List.mem_of_getElem? hc1')
        · exact hTlow _ (List.mem_of_getElem? hc2')
        · exact low_drop hTlow _ c hc
      · rw [show (kd == 1) = false by simpa using hk1]
        simp only [Bool.false_eq_true, if_false]
        refine nExecs_nil ?_
        -- if kind == 2
        refine nExecs_cons (nIf (wpN_of (wpAny_isTrue_Compare1 (NameLC x₁₃ hk k3 rfl (wpAny_Constant_int (PyProof.Rows.eq_int (wpAny_truthy_bool ?_))) (by decide)))))
        have x₁₄ := x₁₃.tok (s₁₂.toks + 1 + 1)
        by_cases hk2 : (kd == 2) = true
        · rw [hk2]
          simp only [if_true]
          obtain ⟨c0, hc0⟩ : ∃ c, f1[0]? = some c := ⟨_, List.getElem?_eq_getElem (by omega)⟩
          refine nExecs_cons (nAssign_Name (wpN_of (wpAny_mono (Q := fun v s' => ∃ c t, v = .str (S [c]) t ∧ c < 256 ∧ Keeps { s₁₂ with toks := s₁₂.toks + 1 + 1 } s') (E := fun _ _ => False) (IfExp_ (wpAny_isTrue_Compare1 ?_)) (fun v s₁₇ hv => ?_) fun _ _ q => q.elim)) (by rfl))
          · refine sub_item (NameLC x₁₄ hk k6 rfl ⟨f1, t1, rfl, by omega, wpAny_Constant_int ⟨0, _, c0, rfl, hc0, fun _ s₁₅ K₁₅ => ?_⟩⟩ (by decide))
            have K₁₅' := kTrans (kTok _) K₁₅
            have x₁₅ := icUp x₁₄ K₁₅'
            refine sub_item (NameCC x₁₅ hk k2 hc1 hcm ⟨[a, b], tp, rfl, by simp, wpAny_Constant_int ⟨0, _, a, rfl, rfl, fun _ s₁₆ K₁₆ => PyProof.Rows.eq_str (wpAny_truthy_bool ?_)⟩⟩ (by decide))
            have K₁₆' := kTrans K₁₅' (kTrans (kTok _) K₁₆)
            have x₁₆ := icUp x₁₄ K₁₆'
            split
            · exact sub_item (NameCC x₁₆ hk k2 hc1 hcm ⟨[a, b], tp, rfl, by simp, wpAny_Constant_int ⟨1, _, b, rfl, rfl, fun _ s' K => ⟨b, _, rfl, hb, kTrans K₁₆' (kTrans (kTok _) K)⟩⟩⟩ (by decide))
            · exact sub_item (NameCC x₁₆ hk k2 hc1 hcm ⟨[a, b], tp, rfl, by simp, wpAny_Constant_int ⟨0, _, a, rfl, rfl, fun _ s' K => ⟨a, _, rfl, ha, kTrans K₁₆' (kTrans (kTok _) K)⟩⟩⟩ (by decide))
          · obtain ⟨c, tc, rfl, hcl, K₁₇⟩ := hv
            refine stL (icUp x₁₄ K₁₇) hk k11 fun s₁₈ x₁₈ _ => ?_
            refine nExecs_cons (wpN_of (wpAny_Return_some (wpAny_BinOp (wpAny_BinOp (wpAny_BinOp (wpAny_BinOp ?_))))))
            refine NameLC x₁₈ hk k11 rfl (NameLC x₁₈ hk k6 rfl (add_S (by simp; omega) fun _ s₁₉ K₁₉ => ?_) (by decide)) (by decide)
            have x₁₉ := icUp x₁₈ K₁₉
            refine NameLC x₁₉ hk k7 rfl (add_S (by simp; omega) fun _ s₂₀ K₂₀ => ?_) (by decide)
            have x₂₀ := icUp x₁₉ K₂₀
            refine NameLC x₂₀ hk k11 rfl (add_S (by simp; omega) fun _ s₂₁ K₂₁ => ?_) (by decide)
            have x₂₁ := icUp x₂₀ K₂₁
            refine NameLC x₂₁ hk k8 rfl (add_S (by simp; omega) fun _ s₂₂ K₂₂ => ?_) (by decide)
            refine h _ _ _ (icKeeps (icUp x₂₁ K₂₂)) (by simp) (by simp; omega) ?_
            intro d hd
            simp only [List.mem_append, List.mem_singleton] at hd
            rcases hd with (((rfl | hd) | hd) | rfl) | hd
            · exact hcl
            · exact a3 d hd
            · exact b3 d hd
            · exact hcl
            · exact c3 d hd
        · rw [show (kd == 2) = false by simpa using hk2]
          simp only [Bool.false_eq_true, if_false]
          refine nExecs_nil (nExecs_cons (wpN_of (wpAny_Return_some (NameLC x₁₄ hk k9 rfl (h _ _ _ (icKeeps x₁₄) (by omega) (by omega) hTlow) (by decide)))))
end Mine

end

section
set_option maxRecDepth 100000
namespace Mine
open PySem PySem.W PySem.Calls PyProof.Rows
open Sem (wp)
section
variable {prog : Program} {w : World} {A : Around} {E : Value → Shared → Prop} {s : Shared} {env : Env} {Q : Value → Shared → Prop}
/-- two lists joined -/
theorem add_ls {l b : Addr} {xs ys : Array Value} (hl : s.heap.IsList l xs) (hb : s.heap.IsList b ys) (hz : xs.size + ys.size ≤ 1000)
    (h : ∀ D s', Keeps s s' → s'.heap.IsList D (xs ++ ys) → Q (.ref D) s') : wpAny (model prog w) A (binaryOp .Add (.ref l) (.ref b)) Q E s := by
  obtain ⟨⟨c1, d1, dt1, sl1⟩, q1, h1, n1, e1⟩ := id hl
  obtain ⟨⟨c2, d2, dt2, sl2⟩, q2, h2, n2, e2⟩ := id hb
  simp only at h1 e1 h2 e2
  subst h1 e1 h2 e2
  exact concat_meets ⟨_, q1, rfl⟩ ⟨_, q2, rfl⟩ noFill_list_add seq_list_add PySem.F.slot_list_add PySem.F.entry_list_add (PySem.F.args_list_add_2 _ _) (list_addW l b xs ys n1 n2 d1 d2 sl1 sl2 (by rw [sizeLine_eq]; omega))
    ⟨q1, q2, h _ _ (kPush _ _) ⟨_, Heap.get?_push_size _ rfl, rfl, _, rfl⟩⟩
/-- (..)[i] -/
theorem tup_item {value slice : Expr} {pos : Pos} (h : wpAny (model prog w) A (eval value env) (fun o s₁ => ∃ a its, o = .ref a ∧ wpAny (model prog w) A (eval slice env) (fun v s₂ => ∃ (k : Nat) (u : Tok) (x : Value), v = .int (k : Int) u ∧ IsTup s₂.heap a its ∧ its[k]? = some x ∧ its.size ≤ 1000 ∧ Q x s₂) E s₁) E s)
    (hs : ∀ a i u, subscripted slice false (.ref a) (.int i u) = operate [.ref a, .int i u] (getItem (.ref a) (.int i u)) := by intro _ _ _; with_unfolding_all rfl) :
    wpAny (model prog w) A (eval (.Subscript value slice pos) env) Q E s := by
  refine Subscript_ (wpAny_mono h (fun o s₁ h₁ => ?_) fun _ _ q => q)
  obtain ⟨a, its, rfl, h₂⟩ := h₁
  refine wpAny_mono h₂ (fun v s₂ h₃ => ?_) fun _ _ q => q
  obtain ⟨k, u, x, rfl, ht, hx, hz, hq⟩ := h₃
  have hk : k < its.size := (Array.getElem?_eq_some_iff.mp hx).1
  refine tail_any (ops := [.ref a, .int (k : Int) u]) ht.typeIs PyProof.Rows.slot_tuple_getitem.lookup (PyProof.Rows.getItem_tuple ht (by omega) (by omega) (j := k) ?_ hx hq) (hs _ _ _)
  unfold seqIndex?
  simp
  omega
theorem kp_sum {M : Model} : Kp M s (.builtin "sum") := kp_builtin
/-- sum of a list of ints -/
theorem sum_ls {D : Addr} {its : Array Value} (hh : A.handled = none) (hl : s.heap.IsList D its) (hi : ∀ (i : Nat) v, its[i]? = some v → ∃ (n : Int) (t : Tok), v = .int n t)
    (h : ∀ n t s', Keeps s s' → Q (.int n t) s') : wpAny (model prog w) A (call (.builtin "sum") [.ref D]) Q E s := by
  have hD : D < s.heap.objs.size := by obtain ⟨o, ho, _⟩ := hl; exact Heap.lt_size ho
  refine call_sum_walkG (wpAny_pyIter_list hl ?_)
  refine ⟨s.heap.objs.size, _, _, its.size, _, _, fun i => match its[i]? with | some (.int n _) => n | _ => 0, rfl, Walks.list (A := A.in1) hh s.heap.objs.size D (Nat.ne_of_lt hD) its, ⟨⟨_, Heap.get?_push_size _ rfl, rfl, rfl⟩, hl.push _⟩, fun b hb => ?_, fun i v hv => ?_, fun h' tk t' hk => ?_⟩
  · rw [Heap.size_push]
    rcases List.mem_cons.mp hb with rfl | hb
    · exact Nat.lt_succ_self _
    · rw [List.mem_singleton.mp hb]; exact Nat.lt_succ_of_lt hD
  · obtain ⟨n, t, rfl⟩ := hi i v hv
    exact ⟨t, by dsimp only; rw [hv]⟩
  · refine h _ _ _ ⟨h', tk, rfl, fun b o q => hk b o ?_ (Heap.get?_push_of_some _ q)⟩
    intro hm
    rw [List.mem_singleton.mp hm] at q
    exact absurd (Heap.lt_size q) (Nat.lt_irrefl _)
theorem pick_ints {items : Array Value} {a b c : Option Int} (hi : ∀ (i : Nat) v, items[i]? = some v → ∃ (n : Int) (t : Tok), v = .int n t) : ∀ (i : Nat) v, (slicePick items a b c)[i]? = some v → ∃ (n : Int) (t : Tok), v = .int n t := fun i v hv => by
  have hm := Array.mem_of_getElem? hv
  unfold slicePick at hm
  simp only [List.mem_toArray, List.mem_filterMap] at hm
  obtain ⟨k, _, hk⟩ := hm
  exact hi k v hk
/-- sum(value[lo:hi:st]) of ints, each part given -/
theorem sub_lst {value : Expr} {lo hi st : Option Expr} {p pos : Pos} (h : wpAny (model prog w) A (eval value env) (fun o s₁ => ∃ a its, o = .ref a ∧ wpAny (model prog w) A (evalPart lo env) (fun v1 s₂ => wpAny (model prog w) A (evalPart hi env) (fun v2 s₃ => wpAny (model prog w) A (evalPart st env) (fun v3 s₄ =>
      ∃ i j k, s₄.heap.IsList a its ∧ its.size ≤ 1000 ∧ IsPart v1 i ∧ IsPart v2 j ∧ IsPart v3 k ∧ k ≠ some 0 ∧ ∀ D s', Keeps s₄ s' → s'.heap.IsList D (slicePick its i j k) → Q (.ref D) s') E s₃) E s₂) E s₁) E s)
    (hs : ∀ a i, subscripted (.Slice lo hi st p) false (.ref a) (.ref i) = operate [.ref a, .ref i] (getItem (.ref a) (.ref i)) ∨ subscripted (.Slice lo hi st p) false (.ref a) (.ref i) = operate [.ref i, .ref a] (getItem (.ref a) (.ref i)) := by intro _ _; first | exact .inl rfl | exact .inr rfl) :
    wpAny (model prog w) A (eval (.Subscript value (.Slice lo hi st p) pos) env) Q E s := by
  refine Subscript_ (wpAny_mono h (fun o s₁ h₁ => ?_) fun _ _ q => q)
  obtain ⟨a, its, rfl, h₂⟩ := h₁
  refine wpAny_Slice (wpAny_mono h₂ (fun v1 s₂ h₃ => wpAny_mono h₃ (fun v2 s₃ h₄ => wpAny_mono h₄ (fun v3 s₄ h₅ => ?_) fun _ _ q => q) fun _ _ q => q) fun _ _ q => q)
  obtain ⟨i, j, k, hl, hz, p1, p2, p3, hk, hq⟩ := h₅
  have go : wpAny (model prog w) A (getItem (.ref a) (.ref s₄.heap.objs.size)) Q E { s₄ with heap := s₄.heap.push { cls := .type "slice", data := .fields #[v1, v2, v3] } } :=
    wpAny_getItem_list_slice (hl.push _) (Heap.IsSliceOf.new ..) p1 p2 p3 hk (hq _ _ ⟨_, _, rfl, fun b o q => Heap.get?_push_of_some _ (Heap.get?_push_of_some _ q)⟩ ⟨_, Heap.get?_push_size _ rfl, rfl, _, rfl⟩) (by rw [sizeLine_eq]; omega)
  rcases hs a s₄.heap.objs.size with e | e
  · exact tail_any (Heap.IsList.typeIs (hl.push _)) list_getitem_lookup go e
  · exact tail_any (Heap.IsList.typeIs (hl.push _)) list_getitem_lookup go e
end
end Mine

end

section
set_option maxRecDepth 100000
namespace Mine
open PySem PySem.W PySem.Calls PyProof.Rows
open Sem (wp)
section
variable {M : Model} {A : Around} {E : Value → Shared → Prop} {s : Shared} {env : Env}
/-- f(e1, e2, e3, e4) on the path -/
theorem nCall4 {f : Str} {p pos : Pos} {e1 e2 e3 e4 : Expr} {Q : Value → Shared → Prop} (hs : backTo pos (starEach [e1, e2, e3, e4] env) = [(false, eval e1 env), (false, eval e2 env), (false, eval e3 env), (false, eval e4 env)])
    (h : wpAny M A (eval (.Name f p) env) (fun fv s₀ => wpN M A (eval e1 env) (fun v1 s₁ => wpN M A (eval e2 env) (fun v2 s₂ => wpN M A (eval e3 env) (fun v3 s₃ => wpN M A (eval e4 env) (fun v4 s₄ => Kp M s₄ fv ∧ wpN M A (call fv [v1, v2, v3, v4]) Q E s₄) E s₃) E s₂) E s₁) E s₀) E s) :
    wpN M A (eval (.Call (.Name f p) [e1, e2, e3, e4] [] pos) env) Q E s := by
  rw [arm_eval_Call_Name']
  refine wpN_leaf (wpAny_mono h (fun fv s₀ h₀ => ?_) fun _ _ x => x)
  rw [hs]
  exact nCallWith rfl (nSpliced_cons (wpN_mono h₀ (fun v s₁ h₁ => nSpliced_cons (wpN_mono h₁ (fun v2 s₂ h₂ => nSpliced_cons (wpN_mono h₂ (fun v3 s₃ h₃ => nSpliced_cons (wpN_mono h₃ (fun v4 s₄ h₄ => nSpliced_nil h₄) fun _ _ x => x)) fun _ _ x => x)) fun _ _ x => x)) fun _ _ x => x))
end
section
variable {prog : Program} {w : World} {A : Around} {E : Value → Shared → Prop} {s : Shared} {env : Env} {Q : Value → Shared → Prop}
/-- (8, 14, 7) -/
theorem tup3i {a b c : Int} {k1 k2 k3 k : Nat} {p1 p2 p3 pos : Pos} (h : ∀ T s', Keeps s s' → (∃ t1 t2 t3, IsTup s'.heap T #[.int a t1, .int b t2, .int c t3]) → Q (.ref T) s') :
    wpAny (model prog w) A (eval (.Tuple [.Constant (.int a) k1 p1, .Constant (.int b) k2 p2, .Constant (.int c) k3 p3] k pos) env) Q E s := by
  refine Tuple_ ?_
  rw [show backTo pos (starEach [.Constant (.int a) k1 p1, .Constant (.int b) k2 p2, .Constant (.int c) k3 p3] env) = [(false, eval (.Constant (.int a) k1 p1) env), (false, eval (.Constant (.int b) k2 p2) env), (false, eval (.Constant (.int c) k3 p3) env)] from rfl]
  refine spliced_cons (wpAny_Constant_int (spliced_cons (wpAny_Constant_int (spliced_cons (wpAny_Constant_int (spliced_nil (wpAny_newTuple ?_ (by rw [sizeLine_eq]; exact Nat.le_of_ble_eq_true rfl))))))))
  exact h _ _ (kTrans (kTok (s.toks + 1 + 1 + 1)) (kPush _ _)) ⟨_, _, _, _, Heap.get?_push_size _ rfl, rfl, _, rfl⟩
/-- a tuple of four texts -/
theorem tup4s {a b c d : Str} {k1 k2 k3 k4 k : Nat} {p1 p2 p3 p4 pos : Pos} (h : ∀ T s', Keeps s s' → (∃ t1 t2 t3 t4, IsTup s'.heap T #[.str a t1, .str b t2, .str c t3, .str d t4]) → Q (.ref T) s') :
    wpAny (model prog w) A (eval (.Tuple [.Constant (.str a) k1 p1, .Constant (.str b) k2 p2, .Constant (.str c) k3 p3, .Constant (.str d) k4 p4] k pos) env) Q E s := by
  refine Tuple_ ?_
  rw [show backTo pos (starEach [.Constant (.str a) k1 p1, .Constant (.str b) k2 p2, .Constant (.str c) k3 p3, .Constant (.str d) k4 p4] env) = [(false, eval (.Constant (.str a) k1 p1) env), (false, eval (.Constant (.str b) k2 p2) env), (false, eval (.Constant (.str c) k3 p3) env), (false, eval (.Constant (.str d) k4 p4) env)] from rfl]
  refine spliced_cons (wpAny_Constant_str (spliced_cons (wpAny_Constant_str (spliced_cons (wpAny_Constant_str (spliced_cons (wpAny_Constant_str (spliced_nil (wpAny_newTuple ?_ (by rw [sizeLine_eq]; exact Nat.le_of_ble_eq_true rfl))))))))))
  exact h _ _ (kTrans (kTok (s.toks + 1 + 1 + 1 + 1)) (kPush _ _)) ⟨_, _, _, _, _, Heap.get?_push_size _ rfl, rfl, _, rfl⟩
theorem four_get {k : Nat} (hk : k < 4) {t1 t2 t3 t4 : Tok} : ∃ a b t, (#[Value.str "ab" t1, .str "aA" t2, .str "*/" t3, .str "%$" t4] : Array Value)[k]? = some (.str (S [a, b]) t) ∧ a < 256 ∧ b < 256 := by
  match k, hk with
  | 0, _ => exact ⟨97, 98, t1, by rw [show (S [97, 98]) = Str.ofString "ab" by decide]; rfl, by decide, by decide⟩
  | 1, _ => exact ⟨97, 65, t2, by rw [show (S [97, 65]) = Str.ofString "aA" by decide]; rfl, by decide, by decide⟩
  | 2, _ => exact ⟨42, 47, t3, by rw [show (S [42, 47]) = Str.ofString "*/" by decide]; rfl, by decide, by decide⟩
  | 3, _ => exact ⟨37, 36, t4, by rw [show (S [37, 36]) = Str.ofString "%$" by decide]; rfl, by decide, by decide⟩
end
end Mine

end

section
set_option maxRecDepth 100000
namespace Mine
open PySem PySem.W PySem.Calls PyProof.Rows
open Sem (wp)

theorem ns_not_list {h : Heap} {L D : Addr} {m : Str → Option Value} {ys : Array Value} (n : h.Ns L m) (l : h.IsList D ys) : D ≠ L := fun e => by
  obtain ⟨o, es, ep, q1, q2, _⟩ := n
  obtain ⟨o', q3, _, n', q4⟩ := l
  rw [e, q1] at q3
  cases q3
  rw [q2] at q4; cases q4
theorem cell_not_list {h : Heap} {c D : Addr} {v : Option Value} {ys : Array Value} (n : h.IsCell c v) (l : h.IsList D ys) : D ≠ c := fun e => by
  obtain ⟨o, q1, q2⟩ := n
  obtain ⟨o', q3, _, n', q4⟩ := l
  rw [e, q1] at q3
  cases q3
  rw [q2] at q4; cases q4
/-- v is a list of lists of texts -/
def LV (h : Heap) (ls : List (List Nat)) (v : Value) : Prop := ∃ D ys, v = .ref D ∧ h.IsList D ys ∧ Paired StrV ls ys.toList
def LLV (h : Heap) (x : List (List (List Nat))) (D : Addr) : Prop := ∃ ys, h.IsList D ys ∧ Paired (LV h) x ys.toList
theorem LV.up {h h' : Heap} {ls : List (List Nat)} {v : Value} {b : Addr} (x : LV h ls v) (hb : ∀ D ys, h.IsList D ys → D ≠ b) (k : ∀ c o, c ≠ b → h.get? c = some o → h'.get? c = some o) : LV h' ls v := by
  obtain ⟨D, ys, rfl, hl, hp⟩ := x
  exact ⟨D, ys, rfl, hl.at fun o q => k _ _ (hb _ _ hl) q, hp⟩
theorem LLV.up {h h' : Heap} {x : List (List (List Nat))} {D : Addr} {b : Addr} (y : LLV h x D) (hb : ∀ D ys, h.IsList D ys → D ≠ b) (k : ∀ c o, c ≠ b → h.get? c = some o → h'.get? c = some o) : LLV h' x D := by
  obtain ⟨ys, hl, hp⟩ := y
  exact ⟨ys, hl.at fun o q => k _ _ (hb _ _ hl) q, paired_imp hp fun _ _ r => r.up hb k⟩
theorem LV.keeps {h h' : Heap} {ls : List (List Nat)} {v : Value} (x : LV h ls v) (k : Hk h h') : LV h' ls v := by
  obtain ⟨D, ys, rfl, hl, hp⟩ := x
  exact ⟨D, ys, rfl, hl.at fun o q => k _ _ q, hp⟩
theorem LLV.keeps {h h' : Heap} {x : List (List (List Nat))} {D : Addr} (y : LLV h x D) (k : Hk h h') : LLV h' x D := by
  obtain ⟨ys, hl, hp⟩ := y
  exact ⟨ys, hl.at fun o q => k _ _ q, paired_imp hp fun _ _ r => r.keeps k⟩
theorem LV.of {h : Heap} {ls : List (List Nat)} {v : Value} (r : ∃ as, Reads h v (dL ls) as) : LV h ls v := by
  obtain ⟨as, r⟩ := r
  obtain ⟨D, ys, e, hl, hp⟩ := of_rd dS r
  exact ⟨D, ys, e, hl, paired_imp hp fun _ _ q => rdS.mp q⟩
theorem LLV.of {h : Heap} {x : List (List (List Nat))} {D : Addr} (r : RdLL h (.ref D) x) : LLV h x D := by
  obtain ⟨as, r⟩ := r
  obtain ⟨D', ys, e, hl, hp⟩ := of_rd dL r
  cases e
  exact ⟨ys, hl, paired_imp hp fun _ _ q => LV.of q⟩
theorem LV.rd {h : Heap} {ls : List (List Nat)} {v : Value} (x : LV h ls v) : ∃ as, Reads h v (dL ls) as := by
  obtain ⟨D, ys, rfl, hl, hp⟩ := x
  exact rd_of dS hl (paired_imp hp fun _ _ r => rdS.mpr r)
theorem LLV.rd {h : Heap} {x : List (List (List Nat))} {D : Addr} (y : LLV h x D) : RdLL h (.ref D) x := by
  obtain ⟨ys, hl, hp⟩ := y
  exact rd_of dL hl (paired_imp hp fun _ _ r => r.rd)
theorem low_laid {l : List Nat} (h : Low l) (k : Nat) : ∀ m ∈ mirrors (l.drop k), Low m := low_mirrors (low_drop h k)
theorem mem_laid {l : List Nat} {k : Nat} (h : k ∈ laid l) : k ≤ l.length := by
  rw [← laidTo_all] at h
  have := (laidTo_le (l := l) (i := l.length / 2) (Nat.le_refl _)).1 k h
  omega
theorem low_cut : ∀ (n : Nat) {l : List Nat}, l.length ≤ n → Low l → ∀ ls ∈ (cut l).1, ∀ m ∈ ls, Low m
  | 0, l, hn, _, ls, hls => by
    have e : l = [] := List.length_eq_zero_iff.mp (by omega)
    subst e; rw [cut_nil] at hls; cases hls
  | n + 1, l, hn, hl, ls, hls => by
    by_cases hm : mirrors l = []
    · rw [cut_stop hm] at hls; cases hls
    · have hle := least_of hm
      have h2 := (mir_iff.mp hle.2.1).1
      rw [cut_step hle] at hls
      rcases List.mem_cons.mp hls with rfl | hls
      · exact low_mirrors hl
      · exact low_cut n (by simp; omega) (low_drop hl _) ls hls
theorem cut_len : ∀ (n : Nat) {l : List Nat}, l.length ≤ n → (cut l).1.length ≤ l.length
  | 0, l, hn => by
    have e : l = [] := List.length_eq_zero_iff.mp (by omega)
    subst e; rw [cut_nil]; simp
  | n + 1, l, hn => by
    by_cases hm : mirrors l = []
    · rw [cut_stop hm]; simp
    · have hle := least_of hm
      have h2 := (mir_iff.mp hle.2.1).1
      have h3 := hle.1.length_le
      rw [cut_step hle]
      have := cut_len n (l := l.drop (lastOf (mirrors l)).length) (by simp; omega)
      simp only [List.length_cons, List.length_drop] at this ⊢
      omega
theorem cut_ne : ∀ (n : Nat) {l : List Nat}, l.length ≤ n → ∀ ls ∈ (cut l).1, ls ≠ []
  | 0, l, hn, ls, hls => by
    have e : l = [] := List.length_eq_zero_iff.mp (by omega)
    subst e; rw [cut_nil] at hls; cases hls
  | n + 1, l, hn, ls, hls => by
    by_cases hm : mirrors l = []
    · rw [cut_stop hm] at hls; cases hls
    · have hle := least_of hm
      have h2 := (mir_iff.mp hle.2.1).1
      rw [cut_step hle] at hls
      rcases List.mem_cons.mp hls with rfl | hls
      · exact hm
      · exact cut_ne n (by simp; omega) ls hls
theorem laid_len (l : List Nat) : (laid l).length ≤ l.length + 1 := by
  rw [← laidTo_all]
  have := (laidTo_le (l := l) (i := l.length / 2) (Nat.le_refl _)).2
  omega
theorem isList_unique {h : Heap} {D : Addr} {a b : Array Value} (x : h.IsList D a) (y : h.IsList D b) : a = b := by
  obtain ⟨o, q1, _, n, q2⟩ := x
  obtain ⟨o', q3, _, n', q4⟩ := y
  rw [q1] at q3; cases q3
  rw [q2] at q4; cases q4; rfl
theorem filter_tt' {α : Type} (l : List α) : l.filter (fun _ => true) = l := by simp
/-- [shared[-1] for shared in nm] -/
theorem lasts_comp {prog : Program} {w : World} {A : Around} {E : Value → Shared → Prop} {s : Shared} {env : Env} {Q : Value → Shared → Prop} {s₀ : Shared} {m cm : Str → Option Value} {nm : Str} {D : Addr} {acc : List (List (List Nat))} {c1 : Nat} {p1 p2 p3 p4 p5 p6 p7 : Pos}
    (hh : A.handled = none) (x : InCallC s₀ env.locals m env.cells cm s) (hk : env.scope.kind = .function) (kn : env.kindOf nm = some .local) (hm : m nm = some (.ref D)) (hd : (nm == ("__debug__" : Str)) = false)
    (hL : LLV s.heap acc D) (hz : acc.length ≤ 500) (hne : ∀ ls ∈ acc, ls ≠ [])
    (hcl : closureFor ⟨.function, [(Str.ofString ".0", .local), (Str.ofString "shared", .local)], false, false, []⟩ env = pure [])
    (h : ∀ D' s' ys, Keeps s s' → s'.heap.IsList D' ys → Paired StrV (acc.map lastOf) ys.toList → Q (.ref D') s') :
    wpAny (model prog w) A (eval (.ListComp (.Subscript (.Name "shared" p1) (.UnaryOp .USub (.Constant (.int 1) c1 p2) p3) p4) [⟨.Name "shared" p5, .Name nm p6, [], 0⟩] ⟨.function, [(Str.ofString ".0", .local), (Str.ofString "shared", .local)], false, false, []⟩ p7) env) Q E s := by
  obtain ⟨ysM, hl, hp⟩ := hL
  have hsz : ysM.size = acc.length := by have := Paired.len hp; simpa using this
  refine compE (cl := []) (fun _ => true) (fun v y => ∃ D' ys', v = .ref D' ∧ s.heap.IsList D' ys' ∧ ys'.toList.getLast? = some y) hcl (by decide) rfl (by decide) rfl (by intro _; rfl) ?_
  refine NameLC x hk kn hm ⟨ysM.size, _, by rw [sizeLine_eq]; omega, src_list hh hl, ⟨fun C i v s₃ m₃ E' _ _ _ hk' => tests_nil ⟨rfl, kRefl _⟩, fun C i v s₃ m₃ E' hP _ hn hm' hk' => ?_⟩, fun D' s' ys vs K hD' hl' hlen hP hF => ?_⟩ hd
  · obtain ⟨ls, hls, D'', ys'', rfl, hl'', hq⟩ := paired_get hp i v (by simpa using hP)
    obtain ⟨y, hy, _⟩ := paired_last hq (hne ls (List.mem_of_getElem? hls))
    exact sub_last (nmK rfl rfl hn hm' (by decide) ⟨D'', ys'', y, rfl, hl''.at fun o q => hk' _ _ q, hy, fun s₄ K₄ => ⟨⟨D'', ys'', rfl, hl'', hy⟩, K₄⟩⟩)
  · rw [filter_tt'] at hF
    have hvs : vs = ysM.toList := List.ext_getElem? fun j => by
      by_cases hj : j < ysM.size
      · have hj' : j < vs.length := by omega
        have := hP j vs[j] (List.getElem?_eq_getElem hj')
        rw [List.getElem?_eq_getElem hj', Array.getElem?_toList, this]
      · rw [List.getElem?_eq_none (by omega), List.getElem?_eq_none (by simp; omega)]
    subst hvs
    refine h D' s' ys K hl' (paired_mapF (paired_of hp hF ?_))
    rintro ls v y hmem ⟨D1, y1, rfl, l1, q1⟩ ⟨D2, y2, e2, l2, q2⟩
    cases e2
    rw [isList_unique l2 l1] at q2
    obtain ⟨y', hy', hs'⟩ := paired_last q1 (hne ls hmem)
    rw [q2] at hy'
    cases hy'
    rw [← lastOf_last (hne ls hmem)]
    exact hs'
end Mine

end

section
set_option maxRecDepth 100000
namespace Mine
open PySem PySem.W PySem.Calls PyProof.Rows
open Sem (wp)

set_option maxHeartbeats 1000000 in
theorem law_spec {prog : Program} {w : World} {A : Around} {s : Shared} {Q : Value → Shared → Prop} {E : Value → Shared → Prop} {ds : Addr} {its : Array Value} (B : Bs w s.heap) (ok : OkA 6 A)
    (hl : s.heap.IsList ds its) (hz : its.size ≤ 63) (hi : ∀ (i : Nat) v, its[i]? = some v → ∃ (n : Int) (t : Tok), v = .int n t)
    (h : ∀ s', Keeps s s' → Q (.bool true) s') :
    wpN (model prog w) A (call (.ref 114) [.ref ds]) Q E s := by
  refine enterN (f := 114) (binds := [("script", .ref ds)]) B ok.room rfl (by kernel_rfl) rfl rfl rfl rfl rfl rfl rfl ?_
  intro env s₁ he x
  have hk : env.scope.kind = .function := by rw [he]; rfl
  have e : EO env := ⟨hk, by rw [he]; rfl, by rw [he]; rfl⟩
  have k1 : env.kindOf "script" = some .cell := by rw [he]; rfl
  have k2 : env.kindOf "numbers" = some .local := by rw [he]; rfl
  have k3 : env.kindOf "total" = some .local := by rw [he]; rfl
  have k4 : env.kindOf "text" = some .cell := by rw [he]; rfl
  have k5 : env.kindOf "cuts" = some .local := by rw [he]; rfl
  have k6 : env.kindOf "rest" = some .local := by rw [he]; rfl
  have k7 : env.kindOf "back" = some .local := by rw [he]; rfl
  have k8 : env.kindOf "left" = some .local := by rw [he]; rfl
  have k9 : env.kindOf "range" = some .globalImplicit := by rw [he]; rfl
  have k10 : env.kindOf "sum" = some .globalImplicit := by rw [he]; rfl
  have k11 : env.kindOf "_law_text" = some .globalImplicit := by rw [he]; rfl
  have k12 : env.kindOf "len" = some .globalImplicit := by rw [he]; rfl
  have k13 : env.kindOf "_law_turned" = some .globalImplicit := by rw [he]; rfl
  have k14 : env.kindOf "_law_cut" = some .globalImplicit := by rw [he]; rfl
  have k15 : env.kindOf "_law_laid" = some .globalImplicit := by rw [he]; rfl
  have hc1 : env.cells.lookup (Str.ofString "script") = some (s.heap.objs.size + 1) := by rw [he]; rfl
  have hc2 : env.cells.lookup (Str.ofString "text") = some (s.heap.objs.size + 2) := by rw [he]; rfl
  simp only [bindL, bindC, k1, if_true, Option.some.injEq, reduceCtorEq, if_false] at x
  have ok1 : OkA 5 (A.deeper env) := ok.deeper env
  have hh : (A.deeper env).handled = none := ok1.hh
  have hcm0 : ∃ m cm, InCallC s env.locals m env.cells cm s₁ ∧ cm (Str.ofString "script") = some (.ref ds) := ⟨_, _, x, rfl⟩
  clear x
  obtain ⟨m, cm, x, hcm⟩ := hcm0
  have B₁ := B.keeps (icKeep x)
  have hl₁ := hl.at fun o q => icKeep x _ _ q
  have hscr : s₁.heap.IsCell (s.heap.objs.size + 1) (some (.ref ds)) := by have := x.cell (Str.ofString "script") _ hc1; rw [hcm] at this; exact this
  -- numbers
  refine nExecs_cons (wpN_of (compAsg (s₀ := s) (cm := cm) (cl := [(Str.ofString "script", s.heap.objs.size + 1)]) (fun _ => true) (fun v y => ∃ (n : Int) (t : Tok), y = .int n t) (by rw [he]; rfl) (by rw [he]; rfl) (by decide) rfl (by decide) rfl k2 e.hp (by intro _; rfl) ?_))
  refine aCall1 rfl (nm_range B₁ e k9 (wpAny_Constant_int ⟨kp_type, call_range_1 ?_⟩))
  refine ⟨3, _, m, by rw [sizeLine_eq]; omega, Src.bd (src_range hh (IsRange.new _ _ _ _ _ _ _) (by decide) (by decide)), icUp x (kTrans (kTok _) (kPush _ _)), ?_, ?_⟩
  · refine ⟨fun C i v s₃ m₃ E' _ _ _ hk' => tests_nil ⟨rfl, kRefl _⟩, fun C i v s₃ m₃ E' hP _ hn hm hk' => ?_⟩
    obtain ⟨hi3, u, rfl⟩ := hP
    have up3 : Hk s₁.heap s₃.heap := fun b o q => hk' b o (Heap.get?_push_of_some _ q)
    refine wpAny_BinOp (tup_item (tup3i fun T s₄ K₄ ⟨t1, t2, t3, hT⟩ => ⟨T, #[.int 8 t1, .int 14 t2, .int 7 t3], rfl, ?_⟩))
    have up4 : Hk s₁.heap s₄.heap := fun b o q => kHk K₄ _ _ (up3 b o q)
    obtain ⟨n3, t3', hn3⟩ : ∃ (n : Int) (t : Tok), (#[Value.int 8 t1, .int 14 t2, .int 7 t3] : Array Value)[i]? = some (.int n t) := by
      match i, hi3 with
      | 0, _ => exact ⟨8, t1, rfl⟩
      | 1, _ => exact ⟨14, t2, rfl⟩
      | 2, _ => exact ⟨7, t3, rfl⟩
    refine nmK rfl (by rw [he]; rfl) (hn.keeps (kHk K₄)) hm (by decide) ⟨i, u, _, by congr 1; omega, hT, hn3, by simp, ?_⟩
    refine aCall1 rfl (nm_sum (B₁.keeps up4) (e.comp rfl _ _) (by rw [he]; rfl) ?_)
    refine sub_lst (nmC rfl (by rw [he]; rfl) rfl (hscr.keeps up4) (by decide) ⟨ds, its, rfl, ?_⟩)
    refine part_some (nmK rfl (by rw [he]; rfl) (hn.keeps (kHk K₄)) hm (by decide) (part_some (wpAny_Constant_int (part_some (wpAny_Constant_int ⟨_, _, _, hl₁.at fun o q => up4 _ _ q, by omega, .int _ _, .int _ _, .int _ _, by decide, fun D s₅ K₅ hD => ⟨kp_builtin, ?_⟩⟩)))))
    refine sum_ls hh hD (pick_ints hi) fun n t s₆ K₆ => PyProof.Rows.add_int ⟨⟨_, _, rfl⟩, kTrans K₄ (kTrans (kTok _) (kTrans K₅ (kTrans K₆ (kTok _))))⟩
  · intro D s₂ ys vs x₂ hs₂ hD hDL hl₂ hlen hP hF
    have hys3 : ys.size = 3 := by
      rw [filter_tt] at hF
      have := hF.length; simp at this; omega
    have hyi : ∀ (i : Nat) v, ys[i]? = some v → ∃ (n : Int) (t : Tok), v = .int n t := fun i v hv => by
      rw [filter_tt] at hF
      exact paired_all hF (P := fun v => ∃ (n : Int) (t : Tok), v = .int n t) (fun _ _ r => r) v (by simpa using Array.mem_of_getElem? hv)
    have hl₂' : s₂.heap.IsList ds its := hl.at fun o q => icKeep x₂ _ _ q
    clear hF hP hlen hs₂ hD hscr hl₁ x
    have B₂ := B.keeps (icKeep x₂)
    -- total
    refine nExecs_cons (nAssign_Name (wpN_of (wpAny_BinOp (wpAny_Constant_int (aCall1 rfl (nm_sum (B₂.keeps (kHk (kTok _))) e k10 (sub_lst (NameCC (x₂.tok _) hk k1 hc1 hcm ⟨ds, its, rfl, part_none (part_some (wpAny_Constant_int (part_none ⟨_, _, _, hl₂', by omega, .none, .int _ _, .none, by decide, fun D' s₄ K₄ hD' => ⟨kp_builtin, sum_ls hh hD' (pick_ints hi) fun tn tt s₅ K₅ => PyProof.Rows.add_int ?_⟩⟩)))⟩ (by decide)))))))) (by rfl))
    have K₂₅ := kTrans (kTok (s := s₂) _) (kTrans (kTok _) (kTrans K₄ (kTrans K₅ (kTok (s₅.toks + 1)))))
    refine stL (icUp x₂ K₂₅) hk k3 fun s₆ x₆ hs₆ => ?_
    have hl₆ : s₆.heap.IsList D ys := hl₂.at fun o q => hs₆ _ _ hDL (kHk K₂₅ _ _ q)
    have hl₆' : s₆.heap.IsList ds its := hl.at fun o q => icKeep x₆ _ _ q
    have B₆ := B.keeps (icKeep x₆)
    generalize (9 + tn : Int) = tot at x₆
    clear K₂₅ hs₆ hl₂ hl₂' x₂ B₂
    -- text
    refine nExecs_cons (nAssign_Name (nCall4 rfl (nm_text B₆ e k11 (wpN_of (NameLC x₆ hk k2 rfl (wpN_of (tup_item (tup4s fun T s₇ K₇ ⟨t1, t2, t3, t4, hT⟩ => ⟨T, #[.str "ab" t1, .str "aA" t2, .str "*/" t3, .str "%$" t4], rfl, ?_⟩))) (by decide))))) (by rfl))
    have x₇ := icUp x₆ K₇
    obtain ⟨ik, hik, hik4⟩ : ∃ k : Nat, (tot.fdiv 8).fmod 4 = (k : Int) ∧ k < 4 := by
      have g1 := Int.fmod_nonneg_of_pos (tot.fdiv 8) (show (0 : Int) < 4 by decide)
      have g2 := Int.fmod_lt_of_pos (tot.fdiv 8) (show (0 : Int) < 4 by decide)
      exact ⟨((tot.fdiv 8).fmod 4).toNat, by omega, by omega⟩
    obtain ⟨ca, cb, tp, hget, hca, hcb⟩ := four_get hik4 (t1 := t1) (t2 := t2) (t3 := t3) (t4 := t4)
    refine wpAny_BinOp (wpAny_BinOp (NameLC x₇ hk k3 rfl (wpAny_Constant_int (floordiv_int (by decide) (wpAny_Constant_int (mod_int' (by decide) ?_)) (Or.inl (PyProof.noPylong_small (by simp))))) (by decide)))
    rw [hik]
    refine ⟨ik, _, _, rfl, hT, hget, by simp, ?_⟩
    have B₇ := B₆.keeps (kHk K₇)
    refine wpN_of (wpAny_BinOp (wpAny_BinOp (aCall1 rfl (nm_len B₇ e k12 (NameCC (x₇.tok _) hk k1 hc1 hcm ⟨kp_builtin, PyProof.Rows.len_list (hl₆'.at fun o q => kHk K₇ _ _ q) (by omega) ?_⟩ (by decide))))))
    refine wpAny_Constant_int (floordiv_int (by decide) (wpAny_Constant_int (mod_int' (by decide) ?_)) (Or.inl (PyProof.noPylong_small (by simp))))
    refine wpN_of (NameLC (x₇.tok _) hk k3 rfl ⟨kp82 (w := w) B₇, ?_⟩ (by decide))
    refine text_spec (s := { s₇ with toks := _ }) B₇ (ok1.le (by omega)) (hl₆.at fun o q => kHk K₇ _ _ q) hys3 hyi hca hcb fun l t s₈ K₈ hl1 hl40 hlow => ?_
    refine stC (icUp (x₇.tok _) K₈) hk k4 hc2 fun s₉ x₉ _ => ?_
    have x9 : ∃ m9 cm9, InCallC s env.locals m9 env.cells cm9 s₉ ∧ cm9 (Str.ofString "text") = some (Value.str (S l) t) := ⟨_, _, x₉, if_pos rfl⟩
    clear x₉ x₇ x₆
    obtain ⟨m9, cm9, x₉, hct⟩ := x9
    have B₉ := B.keeps (icKeep x₉)
    have hz9 : l.length ≤ 1000 := by omega
    obtain ⟨c0, hc0⟩ : ∃ c, l[0]? = some c := ⟨_, List.getElem?_eq_getElem (by omega)⟩
    have hlow0 : Low (l ++ [c0]) := fun c hc => by
      rcases List.mem_append.mp hc with hc | hc
      · exact hlow c hc
      · rw [List.mem_singleton.mp hc]; exact hlow _ (List.mem_of_getElem? hc0)
    have ok2 : OkA 2 (A.deeper env) := ok1.le (by omega)
    -- if _law_turned(text + text[0]) != text[0] + _law_turned(text)
    refine nExecs_cons (nIf (nIsTrue_Compare1 (nCall1 rfl (nm_turned B₉ e k13 (wpN_of (wpAny_BinOp (NameCC x₉ hk k4 hc2 hct (sub_item (NameCC x₉ hk k4 hc2 hct ⟨l, t, rfl, hz9, wpAny_Constant_int ⟨0, _, c0, rfl, hc0, fun _ s₁₀ K₁₀ => add_S (by simp; omega) fun _ s₁₁ K₁₁ => ?_⟩⟩ (by decide))) (by decide))))))))
    have x₁₁ := icUp x₉ (kTrans (kTok _) (kTrans K₁₀ K₁₁))
    refine ⟨kp87 (B.keeps (icKeep x₁₁)), turned_spec (wd := l ++ [c0]) (B.keeps (icKeep x₁₁)) ok2 (by simp) (by simp; omega) hlow0 fun _ s₁₂ K₁₂ => ?_⟩
    have x₁₂ := icUp x₁₁ K₁₂
    refine nBinOp (wpN_of (sub_item (NameCC x₁₂ hk k4 hc2 hct ⟨l, t, rfl, hz9, wpAny_Constant_int ⟨0, _, c0, rfl, hc0, fun _ s₁₃ K₁₃ => ?_⟩⟩ (by decide))))
    have x₁₃ := icUp x₁₂ (kTrans (kTok _) K₁₃)
    refine nCall1 rfl (nm_turned (B.keeps (icKeep x₁₃)) e k13 (wpN_of (NameCC x₁₃ hk k4 hc2 hct ⟨kp87 (B.keeps (icKeep x₁₃)), turned_spec (wd := l) (B.keeps (icKeep x₁₃)) ok2 (by omega) hz9 hlow fun _ s₁₄ K₁₄ => add_S (by simp; omega) fun _ s₁₅ K₁₅ => PyProof.Rows.ne_str (wpAny_truthy_bool ?_)⟩ (by decide))))
    have hne : (S (l ++ [c0]).reverse != S ([c0] ++ l.reverse)) = false := by simp
    rw [hne]
    simp only [Bool.false_eq_true, if_false]
    refine nExecs_nil ?_
    have x₁₅ := icUp x₁₃ (kTrans K₁₄ K₁₅)
    have B₁₅ := B.keeps (icKeep x₁₅)
    clear x₁₃ x₁₂ x₁₁ x₉ B₉
    -- cuts, rest = _law_cut(text)
    refine nExecs_cons (nAssign_Tuple (nCall1 rfl (nm_cut B₁₅ e k14 (wpN_of (NameCC x₁₅ hk k4 hc2 hct ⟨kp99 B₁₅, cutCall_spec B₁₅ ok1 (by omega) hlow fun T1 C1 tr1 s₁₆ K₁₆ hT1 hC1 => ?_⟩ (by decide))))) (by rfl) (by rfl))
    have x₁₆ := icUp x₁₅ K₁₆
    refine unpack2T hh hT1 fun h₁₇ K₁₇ => ?_
    have x₁₇ := icUp x₁₆ ⟨h₁₇, s₁₆.toks, rfl, K₁₇⟩
    have hct17 : ∃ c, x₁₇ = c := ⟨_, rfl⟩
    clear hct17
    refine stL x₁₇ hk k5 fun s₁₈ x₁₈ hs₁₈ => ?_
    have L₁₇ := (LLV.of hC1).keeps K₁₇
    have L₁₈ := L₁₇.up (fun D ys hl => ns_not_list x₁₇.toInCall.ns hl) hs₁₈
    refine stL x₁₈ hk k6 fun s₁₉ x₁₉ hs₁₉ => ?_
    have L₁₉ := L₁₈.up (fun D ys hl => ns_not_list x₁₈.toInCall.ns hl) hs₁₉
    have B₁₉ := B.keeps (icKeep x₁₉)
    clear L₁₇ L₁₈ x₁₈ x₁₇ x₁₆ x₁₅ hs₁₈ hs₁₉ hT1 hC1 K₁₇ B₁₅
    have hlr : Low l.reverse := fun c hc => hlow c (List.mem_reverse.mp hc)
    -- back, left = _law_cut(_law_turned(text))
    refine nExecs_cons (nAssign_Tuple (nCall1 rfl (nm_cut B₁₉ e k14 (nCall1 rfl (nm_turned B₁₉ e k13 (wpN_of (NameCC x₁₉ hk k4 hc2 hct ⟨kp87 B₁₉, turned_spec (wd := l) B₁₉ ok2 (by omega) hz9 hlow fun _ s₂₀ K₂₀ => ⟨kp99 (B₁₉.keeps (kHk K₂₀)), cutCall_spec (l := l.reverse) (B₁₉.keeps (kHk K₂₀)) ok1 (by simp; omega) hlr fun T2 C2 tr2 s₂₁ K₂₁ hT2 hC2 => ?_⟩⟩ (by decide))))))) (by rfl) (by rfl))
    have x₂₁ := icUp x₁₉ (kTrans K₂₀ K₂₁)
    refine unpack2T hh hT2 fun h₂₂ K₂₂ => ?_
    have x₂₂ := icUp x₂₁ ⟨h₂₂, s₂₁.toks, rfl, K₂₂⟩
    have L₂₂ : LLV h₂₂ (cut l).1 C1 := (L₁₉.keeps (kHk (kTrans K₂₀ K₂₁))).keeps K₂₂
    have M₂₂ := (LLV.of hC2).keeps K₂₂
    refine stL x₂₂ hk k7 fun s₂₃ x₂₃ hs₂₃ => ?_
    have L₂₃ := L₂₂.up (fun D ys hl => ns_not_list x₂₂.toInCall.ns hl) hs₂₃
    have M₂₃ := M₂₂.up (fun D ys hl => ns_not_list x₂₂.toInCall.ns hl) hs₂₃
    refine stL x₂₃ hk k8 fun s₂₄ x₂₄ hs₂₄ => ?_
    have L₂₄ := L₂₃.up (fun D ys hl => ns_not_list x₂₃.toInCall.ns hl) hs₂₄
    have M₂₄ := M₂₃.up (fun D ys hl => ns_not_list x₂₃.toInCall.ns hl) hs₂₄
    clear L₂₂ L₂₃ M₂₂ M₂₃ x₂₃ x₂₂ x₂₁ hs₂₃ hs₂₄ hT2 hC2 K₂₂ x₁₉ B₁₉ L₁₉
    have x24 : ∃ m24, InCallC s env.locals m24 env.cells cm9 s₂₄ ∧ m24 "cuts" = some (.ref C1) ∧ m24 "rest" = some (.str (S (cut l).2) tr1) ∧ m24 "back" = some (.ref C2) ∧ m24 "left" = some (.str (S (cut l.reverse).2) tr2) := ⟨_, x₂₄, rfl, rfl, rfl, rfl⟩
    clear x₂₄
    obtain ⟨m24, x₂₄, n1, n2, n3, n4⟩ := x24
    have B₂₄ := B.keeps (icKeep x₂₄)
    -- if cuts + [[]] != [_law_mirrors(text[end:]) for end in _law_laid(text)]
    obtain ⟨ysC, hlC, hpC⟩ := id L₂₄
    have hszC : ysC.size ≤ 40 := by
      have h1 := Paired.len hpC
      have h2 := cut_len l.length (l := l) (Nat.le_refl _)
      simp at h1; omega
    refine nExecs_cons (nIf (wpN_of (wpAny_isTrue_Compare1 (wpAny_BinOp (NameLC x₂₄ hk k5 n1 (list1 rfl (list0 (add_ls ((hlC.push _).push _) ⟨_, Heap.get?_push_size _ rfl, rfl, _, rfl⟩ (by simp; omega) fun D₂₅ s₂₅ K₂₅ hl₂₅ => ?_))) (by decide))))))
    have K24 : Keeps s₂₄ s₂₅ := kTrans (kTrans (kPush _ _) (kPush _ _)) K₂₅
    have hE : s₂₅.heap.IsList s₂₄.heap.objs.size #[] := by
      have q : (s₂₄.heap.push { cls := .type "list", data := .seq #[] }).IsList s₂₄.heap.objs.size #[] := ⟨_, Heap.get?_push_size _ rfl, rfl, _, rfl⟩
      exact (q.push _).at fun o q => kHk K₂₅ _ _ q
    have L₂₅ : LLV s₂₅.heap ((cut l).1 ++ [[]]) D₂₅ := by
      refine ⟨_, hl₂₅, ?_⟩
      rw [Array.toList_append]
      exact Paired.snoc (paired_imp hpC fun _ _ r => r.keeps (kHk K24)) ⟨_, _, rfl, hE, .nil⟩
    have x₂₅ := icUp x₂₄ K24
    have B₂₅ := B.keeps (icKeep x₂₅)
    refine wpAny_ListComp_freeO (cl := [(Str.ofString "text", s.heap.objs.size + 2)]) (fun _ => true) (fun v its => ∀ k : Nat, IntV k v → Paired StrV (mirrors (l.drop k)) its.toList) (by rw [he]; rfl) (by decide) rfl (by decide) rfl ?_ (by intro _; rfl)
    refine aCall1 rfl (nm_laid B₂₅ e k15 (NameCC x₂₅ hk k4 hc2 hct ⟨kp109 B₂₅, laidCall_spec B₂₅ (ok1.le (by omega)) hz9 fun D₂₆ s₂₆ ls₂₆ K₂₆ hPl hpL => ?_⟩ (by decide)))
    have hD26 : D₂₆ < s₂₆.heap.objs.size := by obtain ⟨o, ho, _⟩ := hPl.isList; exact Heap.lt_size ho
    have hsz26 : ls₂₆.size = (laid l).length := by have := Paired.len hpL; simpa using this
    have hlaidlen := laid_len l
    refine wpAny_pyIter_list hPl.isList ⟨s₂₆.heap.objs.size, _, _, ls₂₆.size, _, _, rfl, Walks.list hh s₂₆.heap.objs.size D₂₆ (Nat.ne_of_lt hD26) ls₂₆, by rw [sizeLine_eq]; omega, ?_, ⟨⟨_, Heap.get?_push_size _ rfl, rfl, rfl⟩, hPl.isList.push _⟩, fun b hb => ?_, ?_, ?_⟩
    · rintro i h' ⟨⟨o, q, _⟩, _⟩ b hb
      rw [List.mem_singleton.mp hb]; exact ⟨o, q⟩
    · rw [Heap.size_push]
      rcases List.mem_cons.mp hb with rfl | hb
      · exact Nat.lt_succ_self _
      · rw [List.mem_singleton.mp hb]; exact Nat.lt_succ_of_lt hD26
    · have x₂₆ := icUp x₂₅ K₂₆
      have hcell : s₂₆.heap.IsCell (s.heap.objs.size + 2) (some (.str (S l) t)) := by
        have := x₂₆.cell (Str.ofString "text") _ hc2
        rw [hct] at this; exact this
      have B₂₆ := B.keeps (icKeep x₂₆)
      have upI : ∀ s₃ : Shared, (∀ b o, b ∉ [s₂₆.heap.objs.size] → (s₂₆.heap.push { cls := .type "list_iterator", data := .fields #[.ref D₂₆, rawInt 0] }).get? b = some o → s₃.heap.get? b = some o) → Hk s₂₆.heap s₃.heap := fun s₃ hk' b o q =>
        hk' b o (by simp; exact Nat.ne_of_lt (Heap.lt_size q)) (Heap.get?_push_of_some _ q)
      refine ⟨fun C i v s₃ m₃ E' _ _ _ _ hk' _ => tests_nil ⟨rfl, kRefl _⟩, fun C i v s₃ m₃ E' _ hP _ hn hm hk' _ => ?_⟩
      have up3 := upI s₃ hk'
      have B₃ := B₂₆.keeps up3
      obtain ⟨k, hkk, u, rfl⟩ := paired_get hpL i v (by simpa using hP)
      refine aCall1 rfl (nm_mirrors B₃ (e.comp rfl _ _) (by rw [he]; rfl) (sub_from (nmC rfl (by rw [he]; rfl) rfl (hcell.keeps up3) (by decide) ⟨l, t, rfl, hz9, nmK rfl (by rw [he]; rfl) hn hm (by decide) ⟨k, u, rfl, mem_laid (List.mem_of_getElem? hkk), fun t' s₄ K₄ => ⟨kp104 (B₃.keeps (kHk K₄)), ?_⟩⟩⟩)))
      refine mirrors_spec (B₃.keeps (kHk K₄)) (ok1.le (by omega)) (by simp; omega) fun D' s₅ its' K₅ hn' hl' hp' => ⟨⟨D', its', rfl, ?_, hl', ?_⟩, kTrans K₄ K₅⟩
      · cases q : s₃.heap.get? D' with
        | none => rfl
        | some o => rw [kHk K₄ _ _ q] at hn'; cases hn'
      · rintro k' ⟨u', e'⟩
        have e1 : (k : Int) = (k' : Int) := by injection e'
        have e2 : k = k' := by omega
        rw [← e2]; exact hp'
    · intro D₂₇ h₂₇ tk₂₇ zs vs _ hl₂₇ _ hlen hP hF _ _ hk₂₇
      rw [filter_tt] at hF
      have hvs : vs = ls₂₆.toList := List.ext_getElem? fun j => by
        by_cases hj : j < ls₂₆.size
        · have hj' : j < vs.length := by omega
          have := hP j vs[j] (List.getElem?_eq_getElem hj')
          rw [List.getElem?_eq_getElem hj', Array.getElem?_toList, this]
        · rw [List.getElem?_eq_none (by omega), List.getElem?_eq_none (by simp; omega)]
      subst hvs
      have up27 : Hk s₂₆.heap h₂₇ := fun b o q => hk₂₇ b o (by simp; exact Nat.ne_of_lt (Heap.lt_size q)) (Heap.get?_push_of_some _ q)
      have K27 : Keeps s₂₅ { s₂₆ with heap := h₂₇, toks := tk₂₇ } := kTrans K₂₆ ⟨h₂₇, tk₂₇, rfl, up27⟩
      have hLL : LLV h₂₇ ((laid l).map fun e => mirrors (l.drop e)) D₂₇ := by
        refine ⟨zs, hl₂₇, paired_mapF (paired_of hpL hF ?_)⟩
        rintro k v y hkm hr ⟨T, its, rfl, _, hT, hG⟩
        exact ⟨T, its, rfl, hT, hG k hr⟩
      have L₂₇ : LLV h₂₇ (cut l).1 C1 := L₂₄.keeps fun b o q => kHk K27 _ _ (kHk K24 _ _ q)
      have M₂₇ : LLV h₂₇ (cut l.reverse).1 C2 := M₂₄.keeps fun b o q => kHk K27 _ _ (kHk K24 _ _ q)
      have x₂₇ := icUp x₂₅ K27
      obtain ⟨as1, r1⟩ := (L₂₅.keeps (h' := h₂₇) fun b o q => kHk K27 _ _ q).rd
      obtain ⟨as2, r2⟩ := hLL.rd
      have heq := cuts_laid l.length l (Nat.le_refl _)
      have hlowC := low_cut l.length (Nat.le_refl _) hlow
      refine SeqAt.compareNe_shaped r1 r2 (shaped_LL fun ls hls c hc => ?_) (shaped_LL fun ls hls => ?_) ok1.line (wpAny_truthy_bool ?_)
      · rcases List.mem_append.mp hls with hls | hls
        · exact hlowC ls hls c hc
        · rw [List.mem_singleton.mp hls] at hc; cases hc
      · obtain ⟨k, _, rfl⟩ := List.mem_map.mp hls
        exact low_laid hlow k
      rw [eqv_LL, decide_eq_true heq]
      simp only [Bool.not_true, Bool.false_eq_true, if_false]
      refine nExecs_nil ?_
      clear r1 r2 hLL hF hP L₂₅ hk₂₇ hlen K27 x₂₅ x₂₄ L₂₄ M₂₄ B₂₅ B₂₄
      have hrev := cut_rev (t := l)
      have hleft := cut_rev_left (t := l)
      -- if rest != ''
      refine nExecs_cons (nIf (wpN_of (wpAny_isTrue_Compare1 (NameLC x₂₇ hk k6 n2 (wpAny_Constant_str (PyProof.Rows.ne_str (wpAny_truthy_bool ?_))) (by decide)))))
      have x₂₈ := x₂₇.tok (tk₂₇ + 1)
      have e1 := S_ne_nil (cut l).2
      have e2 := S_ne_nil (cut l.reverse).2
      by_cases hr : (cut l).2 = []
      · rw [show (S (cut l).2 != _) = false from by rw [e1]; simp [hr]]
        simp only [Bool.false_eq_true, if_false]
        refine nExecs_nil ?_
        obtain ⟨q1, q2⟩ := hrev hr
        refine nExecs_cons (wpN_of (wpAny_Return_some (BoolOp_and (wpAny_Compare1 (NameLC x₂₈ hk k8 n4 (wpAny_Constant_str (PyProof.Rows.eq_str (wpAny_truthy_bool ?_))) (by decide))))))
        have hS : (S (cut l.reverse).2 == Str.ofString "") = true := by
          have : (S (cut l.reverse).2 != Str.ofString "") = false := by rw [e2]; simp [q2]
          simpa using this
        rw [show (S (cut l.reverse).2 == _) = true from hS]
        simp only [if_true]
        refine BoolOp_one (wpAny_Compare1 ?_)
        have x₂₉ := x₂₈.tok (tk₂₇ + 1 + 1)
        have hlen1 := cut_len l.reverse.length (l := l.reverse) (Nat.le_refl _)
        have hlen2 := cut_len l.length (l := l) (Nat.le_refl _)
        refine lasts_comp hh x₂₉ hk k7 n3 (by decide) M₂₇ (by simp at hlen1; omega) (cut_ne _ (Nat.le_refl _)) (by rfl) fun D₃₀ s₃₀ ys₃₀ K₃₀ hl₃₀ hp₃₀ => ?_
        have x₃₀ := icUp x₂₉ K₃₀
        refine sub_lrev (lasts_comp hh x₃₀ hk k5 n1 (by decide) (L₂₇.keeps (kHk K₃₀)) (by omega) (cut_ne _ (Nat.le_refl _)) (by rfl) fun D₃₁ s₃₁ ys₃₁ K₃₁ hl₃₁ hp₃₁ => ⟨D₃₁, ys₃₁, rfl, hl₃₁, ?_, fun D₃₂ s₃₂ K₃₂ hl₃₂ _ => ?_⟩)
        · have := Paired.len hp₃₁
          simp at this; omega
        · have hlowR := low_cut l.reverse.length (Nat.le_refl _) hlr
          have a1 : RdL s₃₂.heap (.ref D₃₀) ((cut l.reverse).1.map lastOf) := RdL.keeps (rd_of dS hl₃₀ (paired_imp hp₃₀ fun _ _ r => rdS.mpr r)) fun b o q => kHk K₃₂ _ _ (kHk K₃₁ _ _ q)
          have a2 : RdL s₃₂.heap (.ref D₃₂) ((cut l).1.map lastOf).reverse := by
            refine rd_of dS hl₃₂ ?_
            rw [Array.toList_reverse]
            exact paired_imp (paired_revA hp₃₁) fun _ _ r => rdS.mpr r
          obtain ⟨as3, r3⟩ := a1
          obtain ⟨as4, r4⟩ := a2
          refine SeqAt.compareEq_shaped r3 r4 (shaped_L ?_) (shaped_L ?_) ok1.line ?_
          · rintro p hp
            obtain ⟨ls, hls, rfl⟩ := List.mem_map.mp hp
            exact hlowR ls hls _ (lastOf_mem (cut_ne _ (Nat.le_refl _) ls hls))
          · rintro p hp
            obtain ⟨ls, hls, rfl⟩ := List.mem_map.mp (List.mem_reverse.mp hp)
            exact hlowC ls hls _ (lastOf_mem (cut_ne _ (Nat.le_refl _) ls hls))
          · rw [eqv_L, decide_eq_true q1]
            exact h _ (icKeeps (icUp x₃₀ (kTrans K₃₁ K₃₂)))
      · rw [show (S (cut l).2 != _) = true from by rw [e1]; simp [hr]]
        simp only [if_true]
        have hr2 := hleft hr
        refine nExecs_cons (wpN_of (wpAny_Return_some (wpAny_Compare1 (NameLC x₂₈ hk k8 n4 (wpAny_Constant_str (PyProof.Rows.ne_str ?_)) (by decide)))))
        rw [show (S (cut l.reverse).2 != _) = true from by rw [e2]; simp [hr2]]
        exact h _ (icKeeps (x₂₈.tok _))
end Mine

end

section
set_option maxRecDepth 100000
set_option Elab.async false
namespace Mine
open PySem PySem.W PySem.Spec PySem.Calls PyProof.Rows
theorem okA_caller : OkA 6 callerA := ⟨rfl, by show callerA.depth + 6 ≤ 500; decide, by show callerA.units + 60 ≤ 5000; decide⟩
theorem ints_get : ∀ {vs : List Value} {ns : List Int}, IntsAre vs ns → ∀ (i : Nat) v, vs.toArray[i]? = some v → ∃ (n : Int) (t : Tok), v = .int n t := by
  intro vs ns h
  induction h with
  | nil => intro i v e; simp at e
  | cons a t r ih =>
    intro i v e
    cases i with
    | zero => simp at e; exact ⟨_, _, e.symm⟩
    | succ i => exact ih i v (by simpa using e)
theorem post_ok (args : List WData) : PySem.Challenge.rw_rl0020_01.row.toRowW.claim.post args (.bool true) args = true := by
  refine postW_of (r := PySem.Challenge.rw_rl0020_01.row.toRowW) (X := true) (by decide) ?_ rfl
  show WTm.value [] (.eq .res (.lit (.bool true))) _ = _
  simp [WTm.value, PySem.W.same]
set_option maxHeartbeats 4000000 in
theorem final : PySem.Challenge.rw_rl0020_01.Holds := MineH.hd (by
  k_fill
  intro w s₀ s₁ mg mb G Y fa o pm cd doc dV kV ho hd hcd hD hmg hg args vals as hpre hlay hrd hwl hlo
  have KX := kIn_of Y
  have T := G.T
  have hBs : Bs w s₁.heap := ⟨KX, ⟨mg, T.g⟩, ⟨mb, T.b, T.builtins⟩, T.nolimit⟩
  have hfa : mg (Str.ofString "law") = some (.ref 114) := mg_of KX T.g (by kernel_rfl)
  have hfa' : fa = 114 := by
    have h1 : some (Value.ref fa) = some (Value.ref 114) := hmg.symm.trans hfa
    injection h1 with h1
    injection h1
  clear hmg hd ho hD hcd
  subst hfa'
  clear T G KX Y hfa
  wrow_args hpre hlay hrd hwl hlo
  rename_i hL _ _ _ hI _ hlen _
  refine law_spec hBs okA_caller hL ?_ (ints_get hI) fun s' K => ?_
  · have h1 := hI.length
    simp
    omega
  · obtain ⟨h', tk, rfl, hk⟩ := K
    exact GoodW.toG ⟨.inl ⟨_, .bool true, [], rfl, fun _ => rfl, .bool true, post_ok _, unshared_nil⟩, hk, rfl, hg⟩)
end Mine

end

set_option maxHeartbeats 8000000 in
theorem PySem.Challenge.cw_rl0020_01_holds : PySem.Challenge.rw_rl0020_01.Holds := by
  exact Mine.final
