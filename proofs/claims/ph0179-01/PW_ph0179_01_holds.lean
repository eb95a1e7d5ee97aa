import PyProof.Rows.All
import Wide.All
import OpenK.AllK
import Wide.FinOn
import Lean
import PySem.Challenge.RW_ph0179_01
open PySem PySem.W PyProof.Rows
set_option Elab.async false
set_option maxRecDepth 100000

namespace Mine
section
open PySem PySem.W PyProof.Rows
set_option maxHeartbeats 8000000
open_top hd01 for PySem.Challenge.rw_ph0179_01
theorem calm1 : True := by k_with_none; trivial
end
end Mine

namespace Mine
section
open PySem PySem.W PyProof.Rows
def rgo (p q : List Nat) : Nat → List Nat → List Nat
  | _, [] => []
  | k + 1, _ :: t => rgo p q k t
  | 0, c :: t => if p.isPrefixOf (c :: t) then q ++ rgo p q (p.length - 1) t else c :: rgo p q 0 t
abbrev repL (p q x : List Nat) : List Nat := rgo p q 0 x
theorem rgo_skip (p q : List Nat) : ∀ (k : Nat) (l : List Nat), rgo p q k l = rgo p q 0 (l.drop k)
  | 0, l => by rw [List.drop_zero]
  | k + 1, [] => by simp [rgo]
  | k + 1, c :: t => by rw [rgo, rgo_skip p q k t, List.drop_succ_cons]
theorem rgo_hit {p l : List Nat} (q : List Nat) (hp : p ≠ []) (h : p <+: l) : rgo p q 0 l = q ++ rgo p q 0 (l.drop p.length) := by
  cases l with
  | nil => exact absurd (List.prefix_nil.mp h) hp
  | cons c t =>
    rw [rgo, if_pos (List.isPrefixOf_iff_prefix.mpr h), rgo_skip]
    have hl : 1 ≤ p.length := by
      cases p with
      | nil => exact absurd rfl hp
      | cons _ _ => simp
    have e : p.length = (p.length - 1) + 1 := by omega
    conv => rhs; rw [e, List.drop_succ_cons]
theorem rgo_miss {p : List Nat} (q : List Nat) {c : Nat} {t : List Nat} (h : ¬ p <+: c :: t) : rgo p q 0 (c :: t) = c :: rgo p q 0 t := by
  rw [rgo, if_neg (fun e => h (List.isPrefixOf_iff_prefix.mp e))]
theorem rgo_none {p : List Nat} (q : List Nat) : ∀ (l : List Nat), (∀ k, k < l.length → ¬ p <+: l.drop k) → rgo p q 0 l = l
  | [], _ => rfl
  | c :: t, h => by
    rw [rgo_miss q (h 0 (by simp)), rgo_none q t (fun k hk => by have := h (k + 1) (by simp only [List.length_cons]; omega); rwa [List.drop_succ_cons] at this)]
theorem rgo_first {p : List Nat} (q : List Nat) (hp : p ≠ []) : ∀ (n : Nat) (l : List Nat), (∀ k, k < n → ¬ p <+: l.drop k) → p <+: l.drop n → rgo p q 0 l = l.take n ++ q ++ rgo p q 0 (l.drop (n + p.length))
  | 0, l, _, h => by
    rw [List.drop_zero] at h
    rw [rgo_hit q hp h, List.take_zero, List.nil_append, Nat.zero_add]
  | n + 1, [], _, h => by
    rw [List.drop_nil] at h
    exact absurd (List.prefix_nil.mp h) hp
  | n + 1, c :: t, hn, h => by
    rw [List.drop_succ_cons] at h
    rw [rgo_miss q (by have := hn 0 (by omega); rwa [List.drop_zero] at this), rgo_first q hp n t (fun k hk => by have := hn (k + 1) (by omega); rwa [List.drop_succ_cons] at this) h]
    have e : n + 1 + p.length = (n + p.length) + 1 := by omega
    rw [e, List.drop_succ_cons, List.take_succ_cons]
    simp
theorem at_iff (x p : Str) (hp : p.cps.toList ≠ []) (k : Nat) : StrLaws.At x p x.length k ↔ p.cps.toList <+: x.cps.toList.drop k := by
  unfold StrLaws.At
  rw [StrLaws.subAt_eq, beq_iff_eq]
  have e : p.length = p.cps.toList.length := by simp [Str.length]
  have ex : x.length = x.cps.toList.length := by simp [Str.length]
  rw [e, ex]
  constructor
  · intro h
    rw [List.prefix_iff_eq_take]
    exact h.2.symm
  · intro h
    have h1 := h.length_le
    rw [List.length_drop] at h1
    have h2 : 0 < p.cps.toList.length := List.length_pos_iff.mpr hp
    exact ⟨by omega, (List.prefix_iff_eq_take.mp h).symm⟩
theorem join_parts_rgo (x p q : Str) (hp : p.cps.toList ≠ []) : ∀ (cuts : List Nat) (a f : Nat), a ≤ x.length → StrLaws.ChainG x p x.length a cuts f → (∀ k, f ≤ k → ¬ StrLaws.At x p x.length k) →
    (Str.join q (StrLaws.partsFrom x p.length a cuts)).cps.toList = rgo p.cps.toList q.cps.toList 0 (x.cps.toList.drop a)
  | [], a, f, ha, h, hn => by
    have e : f = a := h
    subst e
    show (Builtin.Str.strSub x f x.length).cps.toList = _
    rw [StrLaws.strSub_toList, rgo_none]
    · exact List.take_of_length_le (by rw [List.length_drop]; simp [Str.length])
    · intro k _ hk
      rw [List.drop_drop] at hk
      exact hn (f + k) (by omega) ((at_iff x p hp _).mpr hk)
  | c :: r, a, f, ha, h, hn => by
    obtain ⟨b, l, e⟩ := StrLaws.partsFrom_ne x p.length (c + p.length) r
    have ih := join_parts_rgo x p q hp r (c + p.length) f h.2.1.1 h.2.2.2 hn
    show (Str.join q (Builtin.Str.strSub x a c :: StrLaws.partsFrom x p.length (c + p.length) r)).cps.toList = _
    rw [e] at ih ⊢
    show (Builtin.Str.strSub x a c ++ q ++ Str.join q (b :: l)).cps.toList = _
    rw [Str.cps_append, Str.cps_append, Array.toList_append, Array.toList_append, ih, StrLaws.strSub_toList]
    have hac := h.1
    rw [rgo_first q.cps.toList hp (c - a) (x.cps.toList.drop a)]
    · rw [List.drop_drop]
      have e2 : a + (c - a + p.cps.toList.length) = c + p.length := by
        have : p.length = p.cps.toList.length := by simp [Str.length]
        omega
      rw [e2]
    · intro k hk hpre
      rw [List.drop_drop] at hpre
      exact h.2.2.1 (a + k) (by omega) (by omega) ((at_iff x p hp _).mpr hpre)
    · rw [List.drop_drop]
      have e3 : a + (c - a) = c := by omega
      rw [e3]
      exact (at_iff x p hp _).mp h.2.1
theorem kind_pos (x : Str) : 1 ≤ Builtin.Str.strKind x := by
  unfold Builtin.Str.strKind
  split
  · omega
  · split <;> omega
theorem split_cuts (x p : Str) (hk : Builtin.Str.strKind p = 1) (hp : p.cps.toList ≠ []) : ∃ (cuts : List Nat) (f : Nat), Txt.split x p = StrLaws.partsFrom x p.length 0 cuts ∧ StrLaws.ChainG x p x.length 0 cuts f ∧ (∀ k, f ≤ k → ¬ StrLaws.At x p x.length k) ∧ cuts = Builtin.Str.occurrences x p 0 x.length (x.length + 1) := by
  have hl : 1 ≤ p.length := by
    have : p.length = p.cps.toList.length := by simp [Str.length]
    have := List.length_pos_iff.mpr hp
    omega
  obtain ⟨f, hG, hn⟩ := StrLaws.occ_tight x p hl
  refine ⟨_, f, ?_, hG, hn, rfl⟩
  have nil_of : Builtin.Str.occurrences x p 0 x.length (x.length + 1) = [] → StrLaws.partsFrom x p.length 0 (Builtin.Str.occurrences x p 0 x.length (x.length + 1)) = [x] := fun e0 => by
    rw [e0]
    show [Builtin.Str.strSub x 0 x.length] = [x]
    rw [StrLaws.sub_whole]
  unfold Txt.split
  split
  · rename_i hc
    rw [Bool.or_eq_true, decide_eq_true_eq, decide_eq_true_eq] at hc
    refine (nil_of ?_).symm
    rcases hc with h | h
    · cases ho : Builtin.Str.occurrences x p 0 x.length (x.length + 1) with
      | nil => rfl
      | cons c r =>
        rw [ho] at hG
        have := hG.2.1.1
        omega
    · have := kind_pos x
      omega
  · split
    · rename_i he
      exact (nil_of (List.isEmpty_iff.mp he)).symm
    · exact StrLaws.partsBetween_eq _ _ _
theorem rep1 (x p q : Str) (hk : Builtin.Str.strKind p = 1) (hp : p.cps.toList ≠ []) : (Str.join q (Txt.split x p)).cps.toList = repL p.cps.toList q.cps.toList x.cps.toList := by
  obtain ⟨cuts, f, e, hG, hn, _⟩ := split_cuts x p hk hp
  rw [e, join_parts_rgo x p q hp cuts 0 f (Nat.zero_le _) hG hn, List.drop_zero]
theorem partsFrom_length (x : Str) (w : Nat) : ∀ (cuts : List Nat) (a : Nat), (StrLaws.partsFrom x w a cuts).length = cuts.length + 1
  | [], _ => rfl
  | _ :: r, a => by show (_ :: _).length = _; rw [List.length_cons, partsFrom_length x w r]; rfl
/-- one replacement's length, by the count -/
theorem rep1_count (x p q : Str) (hk : Builtin.Str.strKind p = 1) (hp : p.cps.toList ≠ []) : ((Str.join q (Txt.split x p)).length : Int) + Txt.count x p * p.length = x.length + Txt.count x p * q.length := by
  obtain ⟨cuts, f, e, hG, hn, ho⟩ := split_cuts x p hk hp
  have hc : Txt.count x p = (cuts.length : Int) := by rw [ho]; rfl
  have h1 := congrArg Str.length (StrLaws.join_split x p)
  rw [e] at h1 ⊢
  rw [hc]
  obtain ⟨b, l, el⟩ := StrLaws.partsFrom_ne x p.length 0 cuts
  have hl : l.length = cuts.length := by
    have := partsFrom_length x p.length cuts 0
    rw [el, List.length_cons] at this
    omega
  rw [el] at h1 ⊢
  rw [len_join_cons] at h1 ⊢
  rw [hl] at h1 ⊢
  rw [← h1]
  simp only [Int.natCast_add, Int.natCast_mul]
  omega
theorem calm2 : True := by k_with_none; trivial
end
end Mine

namespace Mine
section
open PySem PySem.W PyProof.Rows
/-! the free group's words, letters a b A B as 97 98 65 66 -/
def cancels (c d : Nat) : Bool := (c == 97 && d == 65) || (c == 65 && d == 97) || (c == 98 && d == 66) || (c == 66 && d == 98)
theorem cancels_uniq {c d e : Nat} (h : cancels c d = true) (h' : cancels c e = true) : d = e := by
  unfold cancels at h h'
  simp only [Bool.or_eq_true, Bool.and_eq_true, beq_iff_eq] at h h'
  omega
theorem cancels_symm {c d : Nat} (h : cancels c d = true) : cancels d c = true := by
  unfold cancels at h ⊢
  simp only [Bool.or_eq_true, Bool.and_eq_true, beq_iff_eq] at h ⊢
  omega
def push (c : Nat) : List Nat → List Nat
  | [] => [c]
  | d :: t => if cancels c d then t else c :: d :: t
def red : List Nat → List Nat
  | [] => []
  | c :: t => push c (red t)
def isRed : List Nat → Bool
  | c :: d :: t => !cancels c d && isRed (d :: t)
  | _ => true
theorem isRed_tail {c : Nat} {t : List Nat} (h : isRed (c :: t) = true) : isRed t = true := by
  cases t with
  | nil => rfl
  | cons d r =>
    simp only [isRed, Bool.and_eq_true] at h
    exact h.2
theorem isRed_push (c : Nat) {r : List Nat} (h : isRed r = true) : isRed (push c r) = true := by
  cases r with
  | nil => rfl
  | cons d t =>
    show isRed (if cancels c d = true then t else c :: d :: t) = true
    split
    · exact isRed_tail h
    · rename_i hc
      simp only [isRed, Bool.and_eq_true, Bool.not_eq_true', Bool.eq_false_iff.mpr hc, true_and]
      exact h
theorem isRed_red : ∀ l : List Nat, isRed (red l) = true
  | [] => rfl
  | c :: t => isRed_push c (isRed_red t)
theorem red_of_isRed : ∀ l : List Nat, isRed l = true → red l = l
  | [], _ => rfl
  | [c], _ => rfl
  | c :: d :: t, h => by
    have h2 := red_of_isRed (d :: t) (isRed_tail h)
    simp only [isRed, Bool.and_eq_true, Bool.not_eq_true'] at h
    show push c (red (d :: t)) = _
    rw [h2]
    show (if cancels c d = true then t else c :: d :: t) = _
    rw [h.1]; rfl
theorem push_push {c d : Nat} (h : cancels c d = true) {r : List Nat} (hr : isRed r = true) : push c (push d r) = r := by
  cases r with
  | nil => show (if cancels c d = true then [] else [c, d]) = []; rw [if_pos h]
  | cons e t =>
    by_cases hde : cancels d e = true
    · have e1 : push d (e :: t) = t := by show (if cancels d e = true then t else d :: e :: t) = t; rw [if_pos hde]
      rw [e1]
      have ec : c = e := cancels_uniq (cancels_symm h) hde
      subst ec
      cases t with
      | nil => rfl
      | cons f t' =>
        simp only [isRed, Bool.and_eq_true, Bool.not_eq_true'] at hr
        show (if cancels c f = true then t' else c :: f :: t') = _
        rw [hr.1]; rfl
    · have e1 : push d (e :: t) = d :: e :: t := by show (if cancels d e = true then t else d :: e :: t) = _; rw [if_neg hde]
      rw [e1]
      show (if cancels c d = true then e :: t else c :: d :: e :: t) = _
      rw [if_pos h]
/-- a word upon a reduced one -/
def onto : List Nat → List Nat → List Nat
  | [], r => r
  | c :: t, r => push c (onto t r)
theorem isRed_onto {r : List Nat} (h : isRed r = true) : ∀ x : List Nat, isRed (onto x r) = true
  | [] => h
  | c :: t => isRed_push c (isRed_onto h t)
theorem red_append : ∀ x y : List Nat, red (x ++ y) = onto x (red y)
  | [], _ => rfl
  | c :: t, y => by show push c (red (t ++ y)) = push c (onto t (red y)); rw [red_append t y]
theorem onto_push (c : Nat) (x : List Nat) {r : List Nat} (h : isRed r = true) : onto (push c x) r = push c (onto x r) := by
  cases x with
  | nil => rfl
  | cons d t =>
    show onto (if cancels c d = true then t else c :: d :: t) r = _
    split
    · rename_i hc
      show onto t r = push c (push d (onto t r))
      rw [push_push hc (isRed_onto h t)]
    · rfl
theorem onto_red {r : List Nat} (h : isRed r = true) : ∀ x : List Nat, onto (red x) r = onto x r
  | [] => rfl
  | c :: t => by
    show onto (push c (red t)) r = push c (onto t r)
    rw [onto_push c (red t) h, onto_red h t]
theorem red_red (x : List Nat) : red (red x) = red x := red_of_isRed _ (isRed_red x)
theorem red_left (x y : List Nat) : red (red x ++ y) = red (x ++ y) := by rw [red_append, red_append, onto_red (isRed_red y)]
theorem red_right (x y : List Nat) : red (x ++ red y) = red (x ++ y) := by rw [red_append, red_append, red_red]
theorem red_congr {x x' y y' : List Nat} (h : red x = red x') (h' : red y = red y') : red (x ++ y) = red (x' ++ y') := by
  rw [← red_left, ← red_right, h, h', red_left, red_right]
theorem red_length : ∀ x : List Nat, (red x).length ≤ x.length
  | [] => Nat.le_refl _
  | c :: t => by
    have ih := red_length t
    show (push c (red t)).length ≤ _
    cases hr : red t with
    | nil => simp [push]
    | cons d r =>
      rw [hr] at ih
      show (if cancels c d = true then r else c :: d :: r).length ≤ _
      split <;> simp only [List.length_cons] at ih ⊢ <;> omega
/-! striking -/
theorem red_strike {c d : Nat} (h : cancels c d = true) : ∀ x : List Nat, red (repL [c, d] [] x) = red x := by
  have key : ∀ n, ∀ x : List Nat, x.length ≤ n → red (rgo [c, d] [] 0 x) = red x := by
    intro n
    induction n with
    | zero =>
      intro x hx
      cases x with
      | nil => rfl
      | cons _ _ => simp at hx
    | succ n ih =>
      intro x hx
      cases x with
      | nil => rfl
      | cons e t =>
        by_cases hp : [c, d] <+: e :: t
        · rw [rgo_hit [] (by simp) hp]
          obtain ⟨t', ht⟩ := hp
          rw [← ht] at hx ⊢
          have hl : t'.length ≤ n := by simp at hx; omega
          show red ([] ++ rgo [c, d] [] 0 t') = red (c :: d :: t')
          rw [List.nil_append, ih t' hl]
          show red t' = push c (push d (red t'))
          rw [push_push h (isRed_red t')]
        · rw [rgo_miss [] hp]
          show push e (red _) = push e (red t)
          rw [ih t (by simp at hx; omega)]
  exact fun x => key x.length x (Nat.le_refl _)
theorem rgo_nil_length (p : List Nat) (_hp : p ≠ []) : ∀ x : List Nat, (repL p [] x).length ≤ x.length := by
  have key : ∀ (x : List Nat) (k : Nat), (rgo p [] k x).length ≤ x.length := by
    intro x
    induction x with
    | nil => intro k; cases k <;> simp [rgo]
    | cons c t ih =>
      intro k
      cases k with
      | zero =>
        rw [rgo]
        split
        · have := ih (p.length - 1); simp only [List.nil_append, List.length_cons]; omega
        · have := ih 0; simp only [List.length_cons]; omega
      | succ k => have := ih k; rw [rgo]; simp only [List.length_cons]; omega
  exact fun x => key x 0
/-- if striking a pair keeps the length, nothing is struck and the pair does not stand there -/
theorem strike_keeps {c d : Nat} : ∀ x : List Nat, (repL [c, d] [] x).length = x.length → repL [c, d] [] x = x ∧ ∀ k, ¬ [c, d] <+: x.drop k
  | [], _ => ⟨rfl, fun k h => by rw [List.drop_nil] at h; exact absurd (List.prefix_nil.mp h) (by simp)⟩
  | e :: t, h => by
    have h : (rgo [c, d] [] 0 (e :: t)).length = (e :: t).length := h
    by_cases hp : [c, d] <+: e :: t
    · obtain ⟨t', ht⟩ := id hp
      rw [rgo_hit [] (by simp) hp, ← ht] at h
      have h1 : (rgo [c, d] [] 0 t').length ≤ t'.length := rgo_nil_length [c, d] (by simp) _
      have h2 : (rgo [c, d] [] 0 t').length = t'.length + 2 := by simpa using h
      omega
    · rw [rgo_miss [] hp] at h
      obtain ⟨e1, e2⟩ := strike_keeps t (by simp only [List.length_cons] at h; show (rgo [c, d] [] 0 t).length = _; omega)
      refine ⟨by show rgo [c, d] [] 0 (e :: t) = _; rw [rgo_miss [] hp]; exact congrArg _ e1, fun k => ?_⟩
      cases k with
      | zero => rw [List.drop_zero]; exact hp
      | succ k => rw [List.drop_succ_cons]; exact e2 k
def strike (x : List Nat) : List Nat := repL [66, 98] [] (repL [98, 66] [] (repL [65, 97] [] (repL [97, 65] [] x)))
theorem red_strikes (x : List Nat) : red (strike x) = red x := by
  unfold strike
  rw [red_strike (by decide), red_strike (by decide), red_strike (by decide), red_strike (by decide)]
theorem strike_length (x : List Nat) : (strike x).length ≤ x.length := by
  unfold strike
  exact Nat.le_trans (rgo_nil_length _ (by simp) _) (Nat.le_trans (rgo_nil_length _ (by simp) _) (Nat.le_trans (rgo_nil_length _ (by simp) _) (rgo_nil_length _ (by simp) _)))
theorem isRed_of_free : ∀ x : List Nat, (∀ k, ¬ [97, 65] <+: x.drop k) → (∀ k, ¬ [65, 97] <+: x.drop k) → (∀ k, ¬ [98, 66] <+: x.drop k) → (∀ k, ¬ [66, 98] <+: x.drop k) → isRed x = true
  | [], _, _, _, _ => rfl
  | [c], _, _, _, _ => rfl
  | c :: d :: t, h1, h2, h3, h4 => by
    have ih := isRed_of_free (d :: t) (fun k => by have := h1 (k + 1); rwa [List.drop_succ_cons] at this) (fun k => by have := h2 (k + 1); rwa [List.drop_succ_cons] at this) (fun k => by have := h3 (k + 1); rwa [List.drop_succ_cons] at this) (fun k => by have := h4 (k + 1); rwa [List.drop_succ_cons] at this)
    have hc : cancels c d = false := by
      cases hcd : cancels c d with
      | false => rfl
      | true =>
        unfold cancels at hcd
        simp only [Bool.or_eq_true, Bool.and_eq_true, beq_iff_eq] at hcd
        rcases hcd with ((⟨rfl, rfl⟩ | ⟨rfl, rfl⟩) | ⟨rfl, rfl⟩) | ⟨rfl, rfl⟩
        · exact absurd ⟨t, rfl⟩ (h1 0)
        · exact absurd ⟨t, rfl⟩ (h2 0)
        · exact absurd ⟨t, rfl⟩ (h3 0)
        · exact absurd ⟨t, rfl⟩ (h4 0)
    simp only [isRed, hc, ih, Bool.not_false, Bool.and_self]
/-- a turn that strikes nothing: the word is reduced; else it is shorter -/
theorem strike_same {x : List Nat} (h : (strike x).length = x.length) : strike x = x ∧ red x = x := by
  have l1 := rgo_nil_length [97, 65] (by simp) x
  have l2 := rgo_nil_length [65, 97] (by simp) (repL [97, 65] [] x)
  have l3 := rgo_nil_length [98, 66] (by simp) (repL [65, 97] [] (repL [97, 65] [] x))
  have l4 := rgo_nil_length [66, 98] (by simp) (repL [98, 66] [] (repL [65, 97] [] (repL [97, 65] [] x)))
  unfold strike at h
  obtain ⟨e1, f1⟩ := strike_keeps (c := 97) (d := 65) x (by omega)
  rw [e1] at l2 l3 l4 h
  obtain ⟨e2, f2⟩ := strike_keeps (c := 65) (d := 97) x (by omega)
  rw [e2] at l3 l4 h
  obtain ⟨e3, f3⟩ := strike_keeps (c := 98) (d := 66) x (by omega)
  rw [e3] at l4 h
  obtain ⟨e4, f4⟩ := strike_keeps (c := 66) (d := 98) x (by omega)
  refine ⟨by unfold strike; rw [e1, e2, e3, e4], red_of_isRed _ (isRed_of_free x f1 f2 f3 f4)⟩
theorem strike_less {x : List Nat} (h : strike x ≠ x) : (strike x).length + 1 ≤ x.length := by
  have h1 := strike_length x
  rcases Nat.lt_or_ge (strike x).length x.length with h2 | h2
  · exact h2
  · exact absurd (strike_same (by omega)).1 h
theorem calm3 : True := by k_with_none; trivial
end
end Mine

namespace Mine
section
open PySem PySem.W PyProof.Rows
def isL (c : Nat) : Prop := c = 97 ∨ c = 65 ∨ c = 98 ∨ c = 66
abbrev letters (x : List Nat) : Prop := ∀ c ∈ x, isL c
def inv (c : Nat) : Nat := if c = 97 then 65 else if c = 65 then 97 else if c = 98 then 66 else if c = 66 then 98 else c
def con (x : List Nat) : List Nat := (x.map inv).reverse
theorem con_append (x y : List Nat) : con (x ++ y) = con y ++ con x := by unfold con; rw [List.map_append, List.reverse_append]
theorem con_cons (c : Nat) (x : List Nat) : con (c :: x) = con x ++ [inv c] := by unfold con; rw [List.map_cons, List.reverse_cons]
theorem cancels_inv {c : Nat} (h : isL c) : cancels c (inv c) = true := by rcases h with rfl | rfl | rfl | rfl <;> rfl
theorem inv_cancels {c : Nat} (h : isL c) : cancels (inv c) c = true := by rcases h with rfl | rfl | rfl | rfl <;> rfl
theorem isL_inv {c : Nat} (h : isL c) : isL (inv c) := by rcases h with rfl | rfl | rfl | rfl <;> simp [isL, inv]
theorem inv_inv {c : Nat} (h : isL c) : inv (inv c) = c := by rcases h with rfl | rfl | rfl | rfl <;> rfl
theorem cancels_is {c d : Nat} (h : cancels c d = true) : isL c ∧ isL d ∧ d = inv c := by
  unfold cancels at h
  simp only [Bool.or_eq_true, Bool.and_eq_true, beq_iff_eq] at h
  rcases h with ((⟨rfl, rfl⟩ | ⟨rfl, rfl⟩) | ⟨rfl, rfl⟩) | ⟨rfl, rfl⟩ <;> exact ⟨by simp [isL], by simp [isL], rfl⟩
theorem letters_con {x : List Nat} (h : letters x) : letters (con x) := fun c hc => by
  unfold con at hc
  rw [List.mem_reverse, List.mem_map] at hc
  obtain ⟨d, hd, rfl⟩ := hc
  exact isL_inv (h d hd)
theorem letters_append {x y : List Nat} (h : letters x) (h' : letters y) : letters (x ++ y) := fun c hc => (List.mem_append.mp hc).elim (h c) (h' c)
theorem push_mem {c : Nat} {r : List Nat} : ∀ {e : Nat}, e ∈ push c r → e = c ∨ e ∈ r := by
  intro e he
  cases r with
  | nil => exact .inl (List.mem_singleton.mp he)
  | cons d t =>
    have he : e ∈ (if cancels c d = true then t else c :: d :: t) := he
    split at he
    · exact .inr (.tail _ he)
    · exact List.mem_cons.mp he
theorem red_mem : ∀ {x : List Nat} {e : Nat}, e ∈ red x → e ∈ x
  | [], _, h => h
  | c :: t, e, h => by
    rcases push_mem h with rfl | h
    · exact .head _
    · exact .tail _ (red_mem h)
theorem letters_red {x : List Nat} (h : letters x) : letters (red x) := fun c hc => h c (red_mem hc)
/-- w w⁻¹ strikes down to nothing, whatever stands about it -/
theorem red_pair (x y : List Nat) {c d : Nat} (h : cancels c d = true) : red (x ++ c :: d :: y) = red (x ++ y) := by
  rw [red_append, red_append]
  show onto x (push c (push d (red y))) = _
  rw [push_push h (isRed_red y)]
theorem red_con : ∀ (w : List Nat), letters w → ∀ x y, red (x ++ w ++ con w ++ y) = red (x ++ y)
  | [], _, x, y => by simp [con]
  | c :: t, hw, x, y => by
    have e : x ++ (c :: t) ++ con (c :: t) ++ y = (x ++ [c]) ++ t ++ con t ++ (inv c :: y) := by rw [con_cons]; simp
    rw [e, red_con t (fun d hd => hw d (.tail _ hd))]
    have e2 : x ++ [c] ++ (inv c :: y) = x ++ c :: inv c :: y := by simp
    rw [e2, red_pair x y (cancels_inv (hw c (.head _)))]
theorem con_red : ∀ (x : List Nat), red (con (red x)) = red (con x)
  | [] => rfl
  | c :: t => by
    have ih := con_red t
    show red (con (push c (red t))) = red (con (c :: t))
    rw [con_cons]
    have h2 : red (con t ++ [inv c]) = red (con (red t) ++ [inv c]) := red_congr ih.symm rfl
    rw [h2]
    cases hr : red t with
    | nil => rfl
    | cons d r =>
      show red (con (if cancels c d = true then r else c :: d :: r)) = _
      split
      · rename_i hc
        obtain ⟨hl, _, rfl⟩ := cancels_is hc
        rw [con_cons, inv_inv hl]
        have e : con r ++ [c] ++ [inv c] = con r ++ c :: inv c :: [] := by simp
        rw [e, red_pair _ _ (cancels_inv hl), List.append_nil]
      · rw [con_cons]
/-! the moves -/
def sub (k : Int) (c : Nat) : List Nat :=
  if k = 0 then (if c = 97 then [97, 98] else if c = 65 then [66, 65] else [c])
  else if k = 1 then (if c = 97 then [97, 66] else if c = 65 then [98, 65] else [c])
  else if k = 2 then (if c = 97 then [98, 97] else if c = 65 then [65, 66] else [c])
  else if k = 3 then (if c = 97 then [66, 97] else if c = 65 then [65, 98] else [c])
  else if k = 4 then (if c = 98 then [98, 97] else if c = 66 then [65, 66] else [c])
  else if k = 5 then (if c = 98 then [98, 65] else if c = 66 then [97, 66] else [c])
  else if k = 6 then (if c = 98 then [97, 98] else if c = 66 then [66, 65] else [c])
  else if k = 7 then (if c = 98 then [65, 98] else if c = 66 then [66, 97] else [c])
  else if k = 8 then (if c = 97 then [65] else if c = 65 then [97] else [c])
  else if k = 9 then (if c = 98 then [66] else if c = 66 then [98] else [c])
  else (if c = 97 then [98] else if c = 98 then [97] else if c = 65 then [66] else if c = 66 then [65] else [c])
def phi (k : Int) (x : List Nat) : List Nat := x.flatMap (sub k)
abbrev isK (k : Int) : Prop := 0 ≤ k ∧ k ≤ 10
theorem isK_cases {k : Int} (h : isK k) {P : Int → Prop} (h0 : P 0) (h1 : P 1) (h2 : P 2) (h3 : P 3) (h4 : P 4) (h5 : P 5) (h6 : P 6) (h7 : P 7) (h8 : P 8) (h9 : P 9) (h10 : P 10) : P k := by
  have e : k = 0 ∨ k = 1 ∨ k = 2 ∨ k = 3 ∨ k = 4 ∨ k = 5 ∨ k = 6 ∨ k = 7 ∨ k = 8 ∨ k = 9 ∨ k = 10 := by have := h.1; have := h.2; omega
  rcases e with rfl | rfl | rfl | rfl | rfl | rfl | rfl | rfl | rfl | rfl | rfl <;> assumption
theorem phi_append (k : Int) (x y : List Nat) : phi k (x ++ y) = phi k x ++ phi k y := by unfold phi; rw [List.flatMap_append]
theorem phi_cons (k : Int) (c : Nat) (x : List Nat) : phi k (c :: x) = sub k c ++ phi k x := by unfold phi; rw [List.flatMap_cons]
theorem sub_letters {k : Int} (hk : isK k) {c : Nat} (hc : isL c) : letters (sub k c) := by
  revert c
  refine isK_cases (P := fun k => ∀ {c : Nat}, isL c → letters (sub k c)) hk ?_ ?_ ?_ ?_ ?_ ?_ ?_ ?_ ?_ ?_ ?_
  all_goals (rintro c (rfl | rfl | rfl | rfl) <;> (intro d hd; revert hd; simp [sub, isL]) <;> (intros; omega))
theorem letters_phi {k : Int} (hk : isK k) {x : List Nat} (h : letters x) : letters (phi k x) := fun c hc => by
  unfold phi at hc
  rw [List.mem_flatMap] at hc
  obtain ⟨d, hd, hc⟩ := hc
  exact sub_letters hk (h d hd) c hc
theorem sub_inv {k : Int} (hk : isK k) {c : Nat} (hc : isL c) : sub k (inv c) = con (sub k c) := by
  revert c
  refine isK_cases (P := fun k => ∀ {c : Nat}, isL c → sub k (inv c) = con (sub k c)) hk ?_ ?_ ?_ ?_ ?_ ?_ ?_ ?_ ?_ ?_ ?_
  all_goals (rintro c (rfl | rfl | rfl | rfl) <;> rfl)
theorem phi_con {k : Int} (hk : isK k) : ∀ {x : List Nat}, letters x → phi k (con x) = con (phi k x)
  | [], _ => rfl
  | c :: t, h => by
    rw [con_cons, phi_append, phi_cons k c t, con_append, phi_con hk (fun d hd => h d (.tail _ hd))]
    have e : phi k [inv c] = sub k (inv c) := by rw [phi_cons]; simp [phi]
    rw [e, sub_inv hk (h c (.head _))]
/-- a move of a word struck down is, struck down, the move of the word -/
theorem phi_red {k : Int} (hk : isK k) : ∀ {x : List Nat}, letters x → red (phi k (red x)) = red (phi k x)
  | [], _ => rfl
  | c :: t, h => by
    have ih := phi_red hk (x := t) fun d hd => h d (.tail _ hd)
    have hc := h c (.head _)
    rw [phi_cons]
    have h2 : red (sub k c ++ phi k t) = red (sub k c ++ phi k (red t)) := red_congr rfl ih.symm
    rw [h2]
    show red (phi k (push c (red t))) = _
    cases hr : red t with
    | nil => rw [show push c [] = [c] from rfl, phi_cons]
    | cons d r =>
      show red (phi k (if cancels c d = true then r else c :: d :: r)) = _
      split
      · rename_i hcd
        obtain ⟨_, _, rfl⟩ := cancels_is hcd
        rw [phi_cons, sub_inv hk hc]
        have := red_con (sub k c) (sub_letters hk hc) [] (phi k r)
        simp only [List.nil_append, List.append_assoc] at this
        exact this.symm
      · rw [phi_cons]
theorem two_ite {P : Prop} [Decidable P] {a b : List Nat} (ha : a.length ≤ 2) (hb : b.length ≤ 2) : (if P then a else b).length ≤ 2 := by
  by_cases h : P
  · rw [if_pos h]; exact ha
  · rw [if_neg h]; exact hb
theorem sub_length (k : Int) (c : Nat) : (sub k c).length ≤ 2 := by
  unfold sub
  repeat' (refine two_ite ?_ ?_)
  all_goals first | exact Nat.le_refl 2 | exact Nat.le_succ 1
theorem phi_length (k : Int) : ∀ x : List Nat, (phi k x).length ≤ 2 * x.length
  | [] => Nat.le_refl _
  | c :: t => by
    have := phi_length k t
    have := sub_length k c
    rw [phi_cons, List.length_append, List.length_cons]
    omega
def undo (k : Int) : Int := if k > 7 then k else k + 1 - 2 * (k % 2)
theorem isK_undo {k : Int} (hk : isK k) : isK (undo k) := by
  refine isK_cases (P := fun k => isK (undo k)) hk ?_ ?_ ?_ ?_ ?_ ?_ ?_ ?_ ?_ ?_ ?_ <;> decide
theorem undo_letter {k : Int} (hk : isK k) {c : Nat} (hc : isL c) : red (phi (undo k) (sub k c)) = [c] := by
  revert c
  refine isK_cases (P := fun k => ∀ {c : Nat}, isL c → red (phi (undo k) (sub k c)) = [c]) hk ?_ ?_ ?_ ?_ ?_ ?_ ?_ ?_ ?_ ?_ ?_
  all_goals (rintro c (rfl | rfl | rfl | rfl) <;> decide)
theorem undo_word {k : Int} (hk : isK k) : ∀ {x : List Nat}, letters x → red (phi (undo k) (phi k x)) = red x
  | [], _ => rfl
  | c :: t, h => by
    rw [phi_cons, phi_append]
    rw [← red_left (phi (undo k) (sub k c)), undo_letter hk (h c (.head _)), ← red_right, undo_word hk (fun d hd => h d (.tail _ hd)), red_right]
    rfl
/-- a move and its contrary upon a reduced word -/
theorem undo_moved {k : Int} (hk : isK k) {x : List Nat} (h : letters x) (hr : red x = x) : red (phi (undo k) (red (phi k x))) = x := by
  rw [phi_red (isK_undo hk) (letters_phi hk h), undo_word hk h, hr]
theorem calm4 : True := by k_with_none; trivial
end
end Mine

namespace Mine
section
open PySem PySem.W PyProof.Rows
/-! the ring -/
def ends (x : List Nat) : Prop := ∃ c m, x = c :: (m ++ [inv c]) ∧ isL c
inductive RingTo : List Nat → List Nat → Prop where
  | stop {x : List Nat} : (∀ c m d, x = c :: (m ++ [d]) → c ≠ inv d) → RingTo x x
  | step {c d : Nat} {m r : List Nat} : c = inv d → RingTo m r → RingTo (c :: (m ++ [d])) r
theorem letters_nil : letters [] := fun _ h => nomatch h
theorem isRed_left : ∀ (x y : List Nat), isRed (x ++ y) = true → isRed x = true
  | [], _, _ => rfl
  | [_], _, _ => rfl
  | c :: d :: t, y, h => by
    have ih := isRed_left (d :: t) y (isRed_tail h)
    have h : (!cancels c d && isRed (d :: t ++ y)) = true := h
    rw [Bool.and_eq_true] at h
    show (!cancels c d && isRed (d :: t)) = true
    rw [h.1, ih]; rfl
theorem isRed_right : ∀ (x y : List Nat), isRed (x ++ y) = true → isRed y = true
  | [], _, h => h
  | _ :: t, y, h => isRed_right t y (isRed_tail h)
theorem isRed_glue : ∀ (x : List Nat) (c : Nat) (y : List Nat), isRed (x ++ [c]) = true → isRed (c :: y) = true → isRed (x ++ c :: y) = true
  | [], _, _, _, h => h
  | [e], c, y, h, h' => by
    have h : (!cancels e c && isRed [c]) = true := h
    rw [Bool.and_eq_true] at h
    show (!cancels e c && isRed (c :: y)) = true
    rw [h.1, h']; rfl
  | e :: f :: t, c, y, h, h' => by
    have ih := isRed_glue (f :: t) c y (isRed_tail h) h'
    have h : (!cancels e f && isRed (f :: t ++ [c])) = true := h
    rw [Bool.and_eq_true] at h
    show (!cancels e f && isRed (f :: t ++ c :: y)) = true
    rw [h.1, ih]; rfl
def tS (s : Int) : List Nat := if s = 1 then [97, 98, 65, 66] else [98, 97, 66, 65]
def rots (s : Int) : List (List Nat) := if s = 1 then [[97, 98, 65, 66], [98, 65, 66, 97], [65, 66, 97, 98], [66, 97, 98, 65]] else [[98, 97, 66, 65], [97, 66, 65, 98], [66, 65, 98, 97], [65, 98, 97, 66]]
theorem rot_turn {s : Int} {r : List Nat} (hr : r ∈ rots s) {c : Nat} (hc : isL c) : red (c :: (r ++ [inv c])) ∈ rots s ∨ red (c :: (r ++ [inv c])) = c :: (r ++ [inv c]) := by
  unfold rots at hr ⊢
  by_cases hs : s = 1
  · simp only [if_pos hs] at hr ⊢
    clear hs
    simp only [List.mem_cons, List.not_mem_nil, or_false] at hr
    rcases hr with rfl | rfl | rfl | rfl <;> rcases hc with rfl | rfl | rfl | rfl <;> decide
  · simp only [if_neg hs] at hr ⊢
    clear hs
    simp only [List.mem_cons, List.not_mem_nil, or_false] at hr
    rcases hr with rfl | rfl | rfl | rfl <;> rcases hc with rfl | rfl | rfl | rfl <;> decide
theorem cancels_false_inv {c d : Nat} (hc : isL c) (hd : isL d) (h : cancels c d = false) : cancels (inv d) (inv c) = false := by
  rcases hc with rfl | rfl | rfl | rfl <;> rcases hd with rfl | rfl | rfl | rfl <;> revert h <;> decide
theorem ring_form (s : Int) : ∀ (g : List Nat), letters g → ∃ h r, letters h ∧ r ∈ rots s ∧ red (g ++ tS s ++ con g) = h ++ r ++ con h
  | [], _ => by
    refine ⟨[], tS s, letters_nil, ?_, ?_⟩
    · unfold tS rots; split <;> exact .head _
    · unfold tS; split <;> rfl
  | c :: g, hg => by
    have hc := hg c (.head _)
    obtain ⟨h, r, hh, hr, e⟩ := ring_form s g fun d hd => hg d (.tail _ hd)
    have e1 : red ((c :: g) ++ tS s ++ con (c :: g)) = red (c :: (h ++ r ++ con h ++ [inv c])) := by
      rw [con_cons, ← e]
      show push c (red (g ++ tS s ++ (con g ++ [inv c]))) = push c (red (red (g ++ tS s ++ con g) ++ [inv c]))
      rw [red_left]; simp
    have hw : isRed (h ++ r ++ con h) = true := e ▸ isRed_red _
    rw [e1]
    cases h with
    | nil =>
      have e2 : c :: ([] ++ r ++ con [] ++ [inv c]) = c :: (r ++ [inv c]) := by simp [con]
      rw [e2]
      rcases rot_turn hr hc with h1 | h1
      · exact ⟨[], _, letters_nil, h1, by simp [con]⟩
      · exact ⟨[c], r, fun d hd => by rw [List.mem_singleton.mp hd]; exact hc, hr, by rw [h1]; simp [con]⟩
    | cons d h =>
      have hd := hh d (.head _)
      by_cases hcd : cancels c d = true
      · obtain ⟨_, _, rfl⟩ := cancels_is hcd
        refine ⟨h, r, fun d hd => hh d (.tail _ hd), hr, ?_⟩
        rw [con_cons, inv_inv hc] at hw ⊢
        have e3 : c :: (inv c :: h ++ r ++ (con h ++ [c]) ++ [inv c]) = ([] : List Nat) ++ c :: inv c :: (h ++ r ++ con h ++ [c] ++ [inv c]) := by simp
        rw [e3, red_pair _ _ (cancels_inv hc), List.nil_append]
        have e4 : h ++ r ++ con h ++ [c] ++ [inv c] = (h ++ r ++ con h) ++ c :: inv c :: [] := by simp
        rw [e4, red_pair _ _ (cancels_inv hc), List.append_nil]
        refine red_of_isRed _ (isRed_left _ [c] (isRed_tail (c := inv c) ?_))
        have e5 : inv c :: (h ++ r ++ con h ++ [c]) = inv c :: h ++ r ++ (con h ++ [c]) := by simp
        rw [e5]; exact hw
      · have hcd := Bool.eq_false_iff.mpr hcd
        refine ⟨c :: d :: h, r, fun e he => ?_, hr, ?_⟩
        · rcases List.mem_cons.mp he with rfl | he
          · exact hc
          · exact hh e he
        · have e6 : c :: (d :: h ++ r ++ con (d :: h) ++ [inv c]) = (c :: d :: h) ++ r ++ con (c :: d :: h) := by rw [con_cons c (d :: h)]; simp
          rw [e6]
          refine red_of_isRed _ ?_
          rw [← e6, con_cons] at *
          have e7 : d :: h ++ r ++ (con h ++ [inv d]) ++ [inv c] = (d :: h ++ r ++ con h) ++ inv d :: [inv c] := by simp
          have e8 : d :: h ++ r ++ (con h ++ [inv d]) = (d :: h ++ r ++ con h) ++ [inv d] := by simp
          rw [e8] at hw
          rw [e7]
          have h9 := isRed_glue _ (inv d) [inv c] hw (by
            show (!cancels (inv d) (inv c) && isRed [inv c]) = true
            rw [cancels_false_inv hc hd hcd]; rfl)
          show (!cancels c d && isRed (d :: (h ++ r ++ con h ++ inv d :: [inv c]))) = true
          rw [hcd]
          exact h9
theorem rot_stop {s : Int} {r : List Nat} (hr : r ∈ rots s) : RingTo r r := by
  refine .stop fun c m d e => ?_
  have h4 : ∃ x y z w, r = [x, y, z, w] ∧ x ≠ inv w := by
    unfold rots at hr
    split at hr
    all_goals (simp only [List.mem_cons, List.not_mem_nil, or_false] at hr; rcases hr with rfl | rfl | rfl | rfl <;> exact ⟨_, _, _, _, rfl, by decide⟩)
  obtain ⟨x, y, z, w, rfl, hne⟩ := h4
  have e1 : c = x := (List.cons.inj e).1.symm
  have e2 : m ++ [d] = [y, z] ++ [w] := (List.cons.inj e).2.symm
  have e3 : d = w := List.singleton_inj.mp (List.append_inj' e2 rfl).2
  rw [e1, e3]
  exact hne
theorem ring_to {s : Int} {r : List Nat} (hr : r ∈ rots s) : ∀ (h : List Nat), letters h → RingTo (h ++ r ++ con h) r
  | [], _ => by
    have e : ([] : List Nat) ++ r ++ con [] = r := by simp [con]
    rw [e]; exact rot_stop hr
  | c :: h, hh => by
    have e : (c :: h) ++ r ++ con (c :: h) = c :: ((h ++ r ++ con h) ++ [inv c]) := by rw [con_cons]; simp
    rw [e]
    exact .step (inv_inv (hh c (.head _))).symm (ring_to hr h fun d hd => hh d (.tail _ hd))
/-! the moves of the commutator -/
def g0 (k : Int) : List Nat := if k = 2 then [98] else if k = 3 then [66] else if k = 6 then [97] else if k = 7 then [65] else if k = 8 then [65] else if k = 9 then [66] else []
def sNext (k : Int) (s : Int) : Int := if k > 7 then -s else s
theorem letters_g0 {k : Int} (hk : isK k) : letters (g0 k) := by
  refine isK_cases (P := fun k => letters (g0 k)) hk ?_ ?_ ?_ ?_ ?_ ?_ ?_ ?_ ?_ ?_ ?_
  all_goals (intro c hc; revert hc; simp [g0, isL] <;> (intros; omega))
theorem phi_t {k : Int} (hk : isK k) {s : Int} (hs : s = 1 ∨ s = -1) : red (phi k (tS s)) = red (g0 k ++ tS (sNext k s) ++ con (g0 k)) := by
  refine isK_cases (P := fun k => red (phi k (tS s)) = red (g0 k ++ tS (sNext k s) ++ con (g0 k))) hk ?_ ?_ ?_ ?_ ?_ ?_ ?_ ?_ ?_ ?_ ?_ <;> rcases hs with rfl | rfl <;> decide
theorem letters_tS (s : Int) : letters (tS s) := by
  unfold tS
  split <;> (intro c hc; revert hc; simp [isL] <;> (intros; omega))
/-! the counts -/
def da (x : List Nat) : Int := cnt 97 x - cnt 65 x
def db (x : List Nat) : Int := cnt 98 x - cnt 66 x
theorem da_append (x y : List Nat) : da (x ++ y) = da x + da y := by unfold da; rw [cnt_append, cnt_append]; omega
theorem db_append (x y : List Nat) : db (x ++ y) = db x + db y := by unfold db; rw [cnt_append, cnt_append]; omega
theorem da_cons (c : Nat) (x : List Nat) : da (c :: x) = da [c] + da x := da_append [c] x
theorem db_cons (c : Nat) (x : List Nat) : db (c :: x) = db [c] + db x := db_append [c] x
theorem d_pair {c d : Nat} (h : cancels c d = true) : da [c] + da [d] = 0 ∧ db [c] + db [d] = 0 := by
  obtain ⟨hc, _, rfl⟩ := cancels_is h
  rcases hc with rfl | rfl | rfl | rfl <;> exact ⟨by decide, by decide⟩
theorem d_red : ∀ x : List Nat, da (red x) = da x ∧ db (red x) = db x
  | [] => ⟨rfl, rfl⟩
  | c :: t => by
    obtain ⟨h1, h2⟩ := d_red t
    rw [da_cons, db_cons, ← h1, ← h2]
    show da (push c (red t)) = _ ∧ db (push c (red t)) = _
    cases hr : red t with
    | nil => exact ⟨da_append [c] [], db_append [c] []⟩
    | cons d r =>
      show da (if cancels c d = true then r else c :: d :: r) = _ ∧ db (if cancels c d = true then r else c :: d :: r) = _
      split
      · rename_i hc
        have := d_pair hc
        rw [da_cons d r, db_cons d r]
        omega
      · rw [da_cons c, db_cons c]; exact ⟨rfl, rfl⟩
/-- what a move makes of the counts: (p, q) to (α p + β q, γ p + δ q) -/
def mat (k : Int) : Int × Int × Int × Int :=
  if k = 0 ∨ k = 2 then (1, 0, 1, 1) else if k = 1 ∨ k = 3 then (1, 0, -1, 1) else if k = 4 ∨ k = 6 then (1, 1, 0, 1) else if k = 5 ∨ k = 7 then (1, -1, 0, 1)
  else if k = 8 then (-1, 0, 0, 1) else if k = 9 then (1, 0, 0, -1) else (0, 1, 1, 0)
theorem d_sub {k : Int} (hk : isK k) {c : Nat} (hc : isL c) : da (sub k c) = (mat k).1 * da [c] + (mat k).2.1 * db [c] ∧ db (sub k c) = (mat k).2.2.1 * da [c] + (mat k).2.2.2 * db [c] := by
  revert c
  refine isK_cases (P := fun k => ∀ {c : Nat}, isL c → da (sub k c) = (mat k).1 * da [c] + (mat k).2.1 * db [c] ∧ db (sub k c) = (mat k).2.2.1 * da [c] + (mat k).2.2.2 * db [c]) hk ?_ ?_ ?_ ?_ ?_ ?_ ?_ ?_ ?_ ?_ ?_
  all_goals (rintro c (rfl | rfl | rfl | rfl) <;> exact ⟨by decide, by decide⟩)
theorem d_phi {k : Int} (hk : isK k) : ∀ {x : List Nat}, letters x → da (phi k x) = (mat k).1 * da x + (mat k).2.1 * db x ∧ db (phi k x) = (mat k).2.2.1 * da x + (mat k).2.2.2 * db x
  | [], _ => by show (0 : Int) = _ * 0 + _ * 0 ∧ (0 : Int) = _ * 0 + _ * 0; simp
  | c :: t, h => by
    obtain ⟨h1, h2⟩ := d_phi hk (x := t) fun d hd => h d (.tail _ hd)
    obtain ⟨h3, h4⟩ := d_sub hk (h c (.head _))
    rw [phi_cons, da_append, db_append, h1, h2, h3, h4, da_cons c t, db_cons c t]
    simp only [Int.mul_add]
    omega
theorem det_step {k : Int} (hk : isK k) (p q r s : Int) : ((mat k).1 * p + (mat k).2.1 * q) * ((mat k).2.2.1 * r + (mat k).2.2.2 * s) - ((mat k).2.2.1 * p + (mat k).2.2.2 * q) * ((mat k).1 * r + (mat k).2.1 * s) = sNext k (p * s - q * r) := by
  refine isK_cases (P := fun k => ((mat k).1 * p + (mat k).2.1 * q) * ((mat k).2.2.1 * r + (mat k).2.2.2 * s) - ((mat k).2.2.1 * p + (mat k).2.2.2 * q) * ((mat k).1 * r + (mat k).2.1 * s) = sNext k (p * s - q * r)) hk ?_ ?_ ?_ ?_ ?_ ?_ ?_ ?_ ?_ ?_ ?_
  all_goals (simp [mat, sNext] <;> grind)
/-! what holds behind each move -/
structure Sta (u v c : List Nat) (s : Int) : Prop where
  lu : letters u
  lv : letters v
  lc : letters c
  ru : red u = u
  rv : red v = v
  comm : c = red (u ++ v ++ con u ++ con v)
  side : s = 1 ∨ s = -1
  conj : ∃ g, letters g ∧ c = red (g ++ tS s ++ con g)
  det : da u * db v - db u * da v = s
theorem sta0 : Sta [97] [98] [97, 98, 65, 66] 1 := by
  refine ⟨?_, ?_, ?_, rfl, rfl, rfl, .inl rfl, ⟨[], letters_nil, rfl⟩, by decide⟩ <;> (intro c hc; revert hc; simp [isL] <;> (intros; omega))
theorem red3 {x y z x' y' z' : List Nat} (h1 : red x = red x') (h2 : red y = red y') (h3 : red z = red z') : red (x ++ y ++ z) = red (x' ++ y' ++ z') := red_congr (red_congr h1 h2) h3
theorem sta_step {u v c : List Nat} {s k : Int} (h : Sta u v c s) (hk : isK k) : Sta (red (phi k u)) (red (phi k v)) (red (phi k c)) (sNext k s) where
  lu := letters_red (letters_phi hk h.lu)
  lv := letters_red (letters_phi hk h.lv)
  lc := letters_red (letters_phi hk h.lc)
  ru := red_red _
  rv := red_red _
  comm := by
    have hl := letters_append (letters_append (letters_append h.lu h.lv) (letters_con h.lu)) (letters_con h.lv)
    rw [h.comm, phi_red hk hl, phi_append, phi_append, phi_append, phi_con hk h.lu, phi_con hk h.lv]
    refine red_congr (red_congr (red_congr (red_red _).symm (red_red _).symm) ?_) ?_
    · exact (con_red _).symm
    · exact (con_red _).symm
  side := by
    unfold sNext
    have := h.side
    split <;> omega
  conj := by
    obtain ⟨g, hg, e⟩ := h.conj
    refine ⟨phi k g ++ g0 k, letters_append (letters_phi hk hg) (letters_g0 hk), ?_⟩
    have hl := letters_append (letters_append hg (letters_tS s)) (letters_con hg)
    rw [e, phi_red hk hl, phi_append, phi_append, phi_con hk hg, con_append]
    have e1 : phi k g ++ g0 k ++ tS (sNext k s) ++ (con (g0 k) ++ con (phi k g)) = phi k g ++ (g0 k ++ tS (sNext k s) ++ con (g0 k)) ++ con (phi k g) := by simp
    rw [e1]
    exact red3 rfl (phi_t hk h.side) rfl
  det := by
    rw [(d_red _).1, (d_red _).2, (d_red _).1, (d_red _).2, (d_phi hk h.lu).1, (d_phi hk h.lu).2, (d_phi hk h.lv).1, (d_phi hk h.lv).2, det_step hk, h.det]
theorem sta_ring {u v c : List Nat} {s : Int} (h : Sta u v c s) : ∃ r, r ∈ rots s ∧ RingTo c r := by
  obtain ⟨g, hg, e⟩ := h.conj
  obtain ⟨w, r, hw, hr, e2⟩ := ring_form s g hg
  exact ⟨r, hr, by rw [e, e2]; exact ring_to hr w hw⟩
def wS (x : List Nat) (pre : List Int) : List Nat := pre.foldl (fun w k => red (phi k w)) x
def sS (s : Int) (pre : List Int) : Int := pre.foldl (fun s k => sNext k s) s
theorem wS_snoc (x : List Nat) (pre : List Int) (k : Int) : wS x (pre ++ [k]) = red (phi k (wS x pre)) := by unfold wS; rw [List.foldl_append]; rfl
theorem sS_snoc (s : Int) (pre : List Int) (k : Int) : sS s (pre ++ [k]) = sNext k (sS s pre) := by unfold sS; rw [List.foldl_append]; rfl
theorem sta_all : ∀ (pre : List Int) {u v c : List Nat} {s : Int}, Sta u v c s → (∀ k ∈ pre, isK k) → Sta (wS u pre) (wS v pre) (wS c pre) (sS s pre)
  | [], _, _, _, _, h, _ => h
  | k :: r, _, _, _, _, h, hk => sta_all r (sta_step h (hk k (.head _))) fun j hj => hk j (.tail _ hj)
theorem wS_length (x : List Nat) : ∀ (pre : List Int), (wS x pre).length ≤ x.length * 2 ^ pre.length := by
  intro pre
  induction pre generalizing x with
  | nil => simp [wS]
  | cons k r ih =>
    have h1 := ih (red (phi k x))
    have h2 := red_length (phi k x)
    have h3 := phi_length k x
    show (wS (red (phi k x)) r).length ≤ _
    rw [List.length_cons, Nat.pow_succ]
    have h4 : (red (phi k x)).length * 2 ^ r.length ≤ (2 * x.length) * 2 ^ r.length := Nat.mul_le_mul_right _ (by omega)
    have h5 : (2 * x.length) * 2 ^ r.length = x.length * (2 ^ r.length * 2) := by rw [Nat.mul_comm 2, Nat.mul_assoc, Nat.mul_comm 2]
    omega
theorem calm5 : True := by k_with_none; trivial
end
end Mine

namespace Mine
section
open PySem PySem.W PyProof.Rows
/-! texts as lists of signs -/
abbrev S (l : List Nat) : Str := ⟨l.toArray⟩
theorem S_cps (l : List Nat) : (S l).cps.toList = l := by simp
theorem S_of (x : Str) : x = S x.cps.toList := by simp [S]
theorem S_length (l : List Nat) : (S l).length = l.length := by simp [Str.length]
theorem len_cps (x : Str) : x.length = x.cps.toList.length := by simp [Str.length]
theorem S_eq {x : Str} {l : List Nat} (h : x.cps.toList = l) : x = S l := h ▸ S_of x
theorem S_inj {l l' : List Nat} (h : S l = S l') : l = l' := by
  have := congrArg (fun x : Str => x.cps.toList) h
  simpa using this
theorem S_append (l l' : List Nat) : S l ++ S l' = S (l ++ l') := S_eq (by rw [Str.cps_append, Array.toList_append])
def rep : Str → List Str → Str
  | x, p :: q :: r => rep (Str.join q (Txt.split x p)) r
  | x, _ => x
def RepOk : Str → List Str → Prop
  | x, p :: q :: r => (p.length == 0) = false ∧ x.length + 2 ≤ 1048576 ∧ q.length ≤ 10 ∧ RepOk (Str.join q (Txt.split x p)) r
  | _, [] => True
  | _, _ => False
theorem one (x : List Nat) (p q : Str) (p' q' : List Nat) (h1 : p = S p') (h2 : q = S q') (hk : p'.all (· < 256) = true) (hp : p' ≠ []) : Str.join q (Txt.split (S x) p) = S (repL p' q' x) := by
  subst h1 h2
  have k1 : Builtin.Str.strKind (S p') = 1 := by unfold Builtin.Str.strKind; rw [if_pos (by simpa [S] using hk)]
  have := rep1 (S x) (S p') (S q') k1 (by rw [S_cps]; exact hp)
  rw [S_cps, S_cps, S_cps] at this
  exact S_eq this
theorem rep_two {x p q : Str} {r : List Str} {l : List Nat} (h : Str.join q (Txt.split x p) = S l) : rep x (p :: q :: r) = rep (S l) r := by show rep (Str.join q (Txt.split x p)) r = _; rw [h]
theorem repOk_two {x p q : Str} {r : List Str} {l : List Nat} (h0 : (p.length == 0) = false) (h1 : x.length + 2 ≤ 1048576) (h2 : q.length ≤ 10) (h : Str.join q (Txt.split x p) = S l) (hr : RepOk (S l) r) : RepOk x (p :: q :: r) :=
  ⟨h0, h1, h2, by rw [h]; exact hr⟩
abbrev strikes : List Str := [.ofString "aA", .ofString "", .ofString "Aa", .ofString "", .ofString "bB", .ofString "", .ofString "Bb", .ofString ""]
theorem rep_strikes (x : List Nat) : rep (S x) strikes = S (strike x) := by
  unfold strikes
  rw [rep_two (one x _ _ [97, 65] [] (by rfl) (by rfl) (by decide) (by simp)), rep_two (one _ _ _ [65, 97] [] (by rfl) (by rfl) (by decide) (by simp)), rep_two (one _ _ _ [98, 66] [] (by rfl) (by rfl) (by decide) (by simp)),
    rep_two (one _ _ _ [66, 98] [] (by rfl) (by rfl) (by decide) (by simp))]
  rfl
theorem repOk_strikes (x : List Nat) (h : x.length + 2 ≤ 1048576) : RepOk (S x) strikes := by
  have l1 := rgo_nil_length [97, 65] (by simp) x
  have l2 := rgo_nil_length [65, 97] (by simp) (repL [97, 65] [] x)
  have l3 := rgo_nil_length [98, 66] (by simp) (repL [65, 97] [] (repL [97, 65] [] x))
  unfold strikes
  refine repOk_two (by rfl) (by rw [S_length]; omega) (by decide) (one x _ _ [97, 65] [] (by rfl) (by rfl) (by decide) (by simp)) ?_
  refine repOk_two (by rfl) (by rw [S_length]; omega) (by decide) (one _ _ _ [65, 97] [] (by rfl) (by rfl) (by decide) (by simp)) ?_
  refine repOk_two (by rfl) (by rw [S_length]; omega) (by decide) (one _ _ _ [98, 66] [] (by rfl) (by rfl) (by decide) (by simp)) ?_
  exact repOk_two (by rfl) (by rw [S_length]; omega) (by decide) (one _ _ _ [66, 98] [] (by rfl) (by rfl) (by decide) (by simp)) trivial
/-! single letters -/
theorem rgo_single (c : Nat) (q : List Nat) : ∀ x : List Nat, repL [c] q x = x.flatMap fun d => if d = c then q else [d]
  | [] => rfl
  | e :: t => by
    show rgo [c] q 0 (e :: t) = _
    rw [List.flatMap_cons, ← rgo_single c q t]
    by_cases h : e = c
    · subst h
      rw [if_pos rfl, rgo_hit (p := [e]) q (by simp) (⟨t, rfl⟩ : [e] <+: e :: t)]; rfl
    · rw [if_neg h, rgo_miss q (fun ⟨r, hr⟩ => h (List.cons.inj hr).1.symm)]; rfl
def pairsOf (k : Int) : List (List Nat × List Nat) :=
  if k = 0 then [([97], [97, 98]), ([65], [66, 65])]
  else if k = 1 then [([97], [97, 66]), ([65], [98, 65])]
  else if k = 2 then [([97], [98, 97]), ([65], [65, 66])]
  else if k = 3 then [([97], [66, 97]), ([65], [65, 98])]
  else if k = 4 then [([98], [98, 97]), ([66], [65, 66])]
  else if k = 5 then [([98], [98, 65]), ([66], [97, 66])]
  else if k = 6 then [([98], [97, 98]), ([66], [66, 65])]
  else if k = 7 then [([98], [65, 98]), ([66], [66, 97])]
  else if k = 8 then [([97], [120]), ([65], [97]), ([120], [65])]
  else if k = 9 then [([98], [120]), ([66], [98]), ([120], [66])]
  else [([97], [120]), ([98], [97]), ([120], [98]), ([65], [120]), ([66], [65]), ([120], [66])]
def laidOut : List (List Nat × List Nat) → List Str
  | [] => []
  | p :: r => S p.1 :: S p.2 :: laidOut r
def repP (ps : List (List Nat × List Nat)) (x : List Nat) : List Nat := ps.foldl (fun x p => repL p.1 p.2 x) x
theorem rep_laid : ∀ (ps : List (List Nat × List Nat)) (x : List Nat), (∀ p ∈ ps, p.1 ≠ [] ∧ p.1.all (· < 256) = true) → rep (S x) (laidOut ps) = S (repP ps x)
  | [], _, _ => rfl
  | p :: r, x, h => by
    show rep (S x) (S p.1 :: S p.2 :: laidOut r) = _
    rw [rep_two (one x _ _ p.1 p.2 rfl rfl (h p (.head _)).2 (h p (.head _)).1), rep_laid r _ fun q hq => h q (.tail _ hq)]
    rfl
def sub1 (p : List Nat × List Nat) (d : Nat) : List Nat := if d = p.1.headD 0 then p.2 else [d]
theorem repP_single : ∀ (ps : List (List Nat × List Nat)), (∀ p ∈ ps, p.1 = [p.1.headD 0]) → ∀ x, repP ps x = x.flatMap fun d => repP ps [d]
  | [], _, x => by show x = x.flatMap fun d => [d]; rw [List.flatMap_singleton']
  | p :: r, h, x => by
    have hp := h p (.head _)
    have hr : ∀ q ∈ r, q.1 = [q.1.headD 0] := fun q hq => h q (.tail _ hq)
    have e : ∀ y, repL p.1 p.2 y = y.flatMap fun d => repL p.1 p.2 [d] := fun y => by
      rw [hp, rgo_single]
      congr 1
      funext d
      rw [rgo_single]; simp
    show repP r (repL p.1 p.2 x) = x.flatMap fun d => repP r (repL p.1 p.2 [d])
    rw [e x, repP_single r hr, List.flatMap_assoc]
    congr 1
    funext d
    exact (repP_single r hr _).symm
theorem pairs_single {k : Int} (hk : isK k) : (∀ p ∈ pairsOf k, p.1 = [p.1.headD 0]) ∧ ∀ p ∈ pairsOf k, p.1 ≠ [] ∧ p.1.all (· < 256) = true := by
  refine isK_cases (P := fun k => (∀ p ∈ pairsOf k, p.1 = [p.1.headD 0]) ∧ ∀ p ∈ pairsOf k, p.1 ≠ [] ∧ p.1.all (· < 256) = true) hk ?_ ?_ ?_ ?_ ?_ ?_ ?_ ?_ ?_ ?_ ?_ <;> decide
theorem pairs_sub {k : Int} (hk : isK k) {c : Nat} (hc : isL c) : repP (pairsOf k) [c] = sub k c := by
  revert c
  refine isK_cases (P := fun k => ∀ {c : Nat}, isL c → repP (pairsOf k) [c] = sub k c) hk ?_ ?_ ?_ ?_ ?_ ?_ ?_ ?_ ?_ ?_ ?_
  all_goals (rintro c (rfl | rfl | rfl | rfl) <;> decide)
theorem flatMap_mem {f g : Nat → List Nat} : ∀ {x : List Nat}, (∀ c ∈ x, f c = g c) → x.flatMap f = x.flatMap g
  | [], _ => rfl
  | c :: t, h => by rw [List.flatMap_cons, List.flatMap_cons, h c (.head _), flatMap_mem fun d hd => h d (.tail _ hd)]
abbrev pairTexts (k : Int) : List Str := laidOut (pairsOf k)
theorem rep_pairs {k : Int} (hk : isK k) {x : List Nat} (hx : letters x) : rep (S x) (pairTexts k) = S (phi k x) := by
  rw [rep_laid _ _ (pairs_single hk).2, repP_single _ (pairs_single hk).1]
  unfold phi
  rw [flatMap_mem fun c hc => pairs_sub hk (hx c hc)]
/-! room -/
theorem rgo_length (p q : List Nat) (m : Nat) (hm : 1 ≤ m) (hq : q.length ≤ m) : ∀ (x : List Nat) (k : Nat), (rgo p q k x).length ≤ m * x.length := by
  intro x
  induction x with
  | nil => intro k; cases k <;> simp [rgo]
  | cons c t ih =>
    intro k
    have e : m * (c :: t).length = m * t.length + m := by rw [List.length_cons, Nat.mul_succ]
    rw [e]
    cases k with
    | zero =>
      rw [rgo]
      split
      · have := ih (p.length - 1); rw [List.length_append]; omega
      · have := ih 0; rw [List.length_cons]; omega
    | succ k => have := ih k; rw [rgo]; omega
theorem repOk_laid : ∀ (ps : List (List Nat × List Nat)) (x : List Nat), (∀ p ∈ ps, p.1 ≠ [] ∧ p.1.all (· < 256) = true) → (∀ p ∈ ps, 1 ≤ p.2.length ∧ p.2.length ≤ 10) → (ps.foldl (fun n p => p.2.length * n) x.length + 2 ≤ 1048576) → RepOk (S x) (laidOut ps)
  | [], _, _, _, _ => trivial
  | p :: r, x, h, hq, hn => by
    have hp := h p (.head _)
    have hpq := hq p (.head _)
    have mono : ∀ (r : List (List Nat × List Nat)) (a b : Nat), a ≤ b → r.foldl (fun n p => p.2.length * n) a ≤ r.foldl (fun n p => p.2.length * n) b := by
      intro r
      induction r with
      | nil => intro a b h; exact h
      | cons p r ih => intro a b h; exact ih _ _ (Nat.mul_le_mul_left _ h)
    have grow : ∀ (r : List (List Nat × List Nat)) (a : Nat), (∀ p ∈ r, 1 ≤ p.2.length) → a ≤ r.foldl (fun n p => p.2.length * n) a := by
      intro r
      induction r with
      | nil => intro a _; exact Nat.le_refl _
      | cons p r ih =>
        intro a h
        exact Nat.le_trans (Nat.le_mul_of_pos_left a (h p (.head _))) (ih _ fun q hq => h q (.tail _ hq))
    have hx : x.length ≤ (p :: r).foldl (fun n p => p.2.length * n) x.length := grow (p :: r) _ fun q hq' => (hq q hq').1
    refine repOk_two ?_ (by rw [S_length]; omega) (by rw [S_length]; omega) (one x _ _ p.1 p.2 rfl rfl hp.2 hp.1) ?_
    · rw [S_length, beq_eq_false_iff_ne]
      have := List.length_pos_iff.mpr hp.1
      omega
    · refine repOk_laid r _ (fun q hq => h q (.tail _ hq)) (fun q hq' => hq q (.tail _ hq')) ?_
      have := mono r _ _ (rgo_length p.1 p.2 p.2.length hpq.1 (Nat.le_refl _) x 0)
      have e : (p :: r).foldl (fun n p => p.2.length * n) x.length = r.foldl (fun n p => p.2.length * n) (p.2.length * x.length) := rfl
      rw [e] at hn
      show r.foldl (fun n p => p.2.length * n) (rgo p.1 p.2 0 x).length + 2 ≤ 1048576
      omega
theorem repOk_pairs {k : Int} (hk : isK k) {x : List Nat} (hx : x.length ≤ 1000) : RepOk (S x) (pairTexts k) := by
  refine repOk_laid _ _ (pairs_single hk).2 ?_ ?_
  · refine isK_cases (P := fun k => ∀ p ∈ pairsOf k, 1 ≤ p.2.length ∧ p.2.length ≤ 10) hk ?_ ?_ ?_ ?_ ?_ ?_ ?_ ?_ ?_ ?_ ?_ <;> decide
  · refine isK_cases (P := fun k => (pairsOf k).foldl (fun n p => p.2.length * n) x.length + 2 ≤ 1048576) hk ?_ ?_ ?_ ?_ ?_ ?_ ?_ ?_ ?_ ?_ ?_ <;> simp [pairsOf] <;> omega
theorem pairTexts_length {k : Int} (hk : isK k) : (pairTexts k).length ≤ 26 := by
  refine isK_cases (P := fun k => (pairTexts k).length ≤ 26) hk ?_ ?_ ?_ ?_ ?_ ?_ ?_ ?_ ?_ ?_ ?_ <;> decide
theorem calm6 : True := by k_with_none; trivial
end
end Mine

namespace Mine
section
open PySem PySem.W PyProof.Rows PySem.Calls
section
variable {prog : Program} {w : World} {A : Around} {E : Value → Shared → Prop} {s : Shared} {h₀ : Heap} {L : Addr} {m : Str → Option Value} {env : Env}
/-- a comprehension over a text's signs -/
def SrcS (prog : Program) (w : World) (A : Around) (h₀ : Heap) (L : Addr) (m : Str → Option Value) (env : Env) (elt : Expr) (x : Str) (scope : Scope) (cl : List (Str × Addr)) (Fin : Shared → List Value → List (Addr × Obj) → Prop) (xv : Value) (s₁ : Shared) : Prop :=
  ∃ (y : Str) (t : Tok) (news : List (Addr × Obj)), xv = .str y t ∧ A.handled = none ∧ Fr h₀ L s₁.heap m ∧ News h₀ L s₁.heap news ∧ y.length ≤ sizeLine ∧
    ∀ s₂ : Shared, (∃ h, s₂ = { s₁ with heap := h }) → LCg.CompRest prog w A h₀ L m env elt x scope cl s₂ (fun _ => True) (SignAt y) (Fin s₂) y.length 0 [] news
theorem str_st {I : Addr} {P : Obj → Prop} : ∀ (_i : Nat) (h h' : Heap) (o : Obj) (nw : List (Addr × Obj)), (∃ o, h.get? I = some o ∧ P o) → h.get? I = some o → h'.get? I = some o → (∀ b o, h₀.get? b = some o → h'.get? b = some o) → News h₀ L h' nw → True → (∃ o, h'.get? I = some o ∧ P o) :=
  fun _ h h' o nw st e e' _ _ _ => by
    obtain ⟨o', q, r⟩ := st
    rw [e] at q
    cases q
    exact ⟨o, e', r⟩
theorem ListComp_S {elt iter : Expr} {x : Str} {px : Pos} {scope : Scope} {cl : List (Str × Addr)} {pos : Pos} {Q : Value → Shared → Prop} (_F₀ : Fr h₀ L s.heap m)
    (hclos : closureFor scope env = pure cl) (hcell : ∀ y ∈ scope.names, y.2 ≠ .cell) (hkind : scope.kind = .function)
    (hnames : ∀ y ∈ scope.names, y.2 = .local → scope.names.lookup y.1 = some .local) (hx : scope.names.lookup x = some .local)
    (h : wpAny (model prog w) A (eval iter env) (SrcS prog w A h₀ L m env elt x scope cl (fun s₂ => LCg.FinE h₀ L m s₂ Q)) E s)
    (hs : ∀ x, foldedSetIterable iter env x = pure x := by intro _; rfl) :
    wpAny (model prog w) A (eval (.ListComp elt [⟨.Name x px, iter, [], 0⟩] scope pos) env) Q E s := by
  rw [eval_ListComp]
  refine wpAny_comprehension_free (use := none) rfl hs hclos hkind hnames (wpAny_mono h (fun xv s₁ h₁ => ?_) fun _ _ e => e)
  obtain ⟨y, t, news, rfl, hh, F, N, hsz, R⟩ := h₁
  cases ha : y.cps.all (· < 128) with
  | true =>
    refine wpAny_pyIter_ascii ha ?_
    refine LCg.block_U (Walks.strAscii hh s₁.heap.objs.size y t) hsz (fun i h st => let ⟨o, e, _⟩ := st; ⟨o, e⟩) (fun i h h' o nw st e e' k N z => str_st i h h' o nw st e e' k N z) hcell hkind hx ⟨_, Heap.get?_push_size _ rfl, rfl, rfl⟩ (fun b hb => ?_)
      (F.keeps fun _ _ e => Heap.get?_push_of_some _ e) (N.grown fun _ _ e => Heap.get?_push_of_some _ e) (Nat.ne_of_lt F.ns.lt) (next_is_new F) (fun p hp => Nat.ne_of_lt (Heap.lt_size (N p hp).1)) trivial (R _ ⟨_, rfl⟩) ?_
    · rw [List.mem_singleton.mp hb]
      show s₁.heap.objs.size < (s₁.heap.push _).objs.size
      rw [Heap.size_push]; exact Nat.lt_succ_self _
    · intro D C h tk m' ys news' F' N' o1 hn hC₀ hD₀ hCL hDL hCD offC fin
      refine ⟨m', hn, fun h'' hs'' => fin D h'' tk (F'.change hs'' hCL hC₀) (fun p hp => ?_) o1⟩
      refine ⟨hs''.extBut _ _ ?_ (N' p hp).1, (N' p hp).2⟩
      rcases List.mem_cons.mp hp with rfl | hp
      · exact Ne.symm hCD
      · exact offC p hp
  | false =>
    refine wpAny_pyIter_wide ha ?_
    refine LCg.block_U (Walks.strWide hh s₁.heap.objs.size y t) hsz (fun i h st => let ⟨o, e, _⟩ := st; ⟨o, e⟩) (fun i h h' o nw st e e' k N z => str_st i h h' o nw st e e' k N z) hcell hkind hx ⟨_, Heap.get?_push_size _ rfl, rfl, rfl⟩ (fun b hb => ?_)
      (F.keeps fun _ _ e => Heap.get?_push_of_some _ e) (N.grown fun _ _ e => Heap.get?_push_of_some _ e) (Nat.ne_of_lt F.ns.lt) (next_is_new F) (fun p hp => Nat.ne_of_lt (Heap.lt_size (N p hp).1)) trivial (R _ ⟨_, rfl⟩) ?_
    · rw [List.mem_singleton.mp hb]
      show s₁.heap.objs.size < (s₁.heap.push _).objs.size
      rw [Heap.size_push]; exact Nat.lt_succ_self _
    · intro D C h tk m' ys news' F' N' o1 hn hC₀ hD₀ hCL hDL hCD offC fin
      refine ⟨m', hn, fun h'' hs'' => fin D h'' tk (F'.change hs'' hCL hC₀) (fun p hp => ?_) o1⟩
      refine ⟨hs''.extBut _ _ ?_ (N' p hp).1, (N' p hp).2⟩
      rcases List.mem_cons.mp hp with rfl | hp
      · exact Ne.symm hCD
      · exact offC p hp
/-- each element's text by a function of the sign -/
theorem rest_S {y : Str} {elt : Expr} {x : Str} {scope : Scope} {cl : List (Str × Addr)} {news : List (Addr × Obj)} {Fin : List Value → List (Addr × Obj) → Prop} (g : Nat → Str)
    (turn : ∀ c t I oI C oC D m₂ ys h tk (E' : Value → Shared → Prop), c ∈ y.cps.toList → LCg.NsObj oC m₂ → m₂ x = some (.str ⟨#[c]⟩ t) → Fr h₀ L h m → News h₀ L h ((I, oI) :: (C, oC) :: (D, LCg.lst ys) :: news) → LCg.Off3 I C D news → ((@Ne Nat I C) ∧ (@Ne Nat I D) ∧ (@Ne Nat C D)) →
      wpAny (model prog w) A (eval elt (compEnvC scope cl C env)) (LCg.CompEnd h₀ L m { s with heap := h, toks := tk } I oI C oC D (LCg.lst ys) (fun _ => True) (fun v news' => KCtEl news (g c) v news')) E' { s with heap := h, toks := tk })
    (fin : ∀ ys, StrsAre ys (y.cps.toList.map g) → Fin ys news) : LCg.CompRest prog w A h₀ L m env elt x scope cl s (fun _ => True) (SignAt y) Fin y.length 0 [] news := by
  have key : ∀ (j i : Nat) (ys : List Value), i + j = y.cps.toList.length → StrsAre ys ((y.cps.toList.take i).map g) → LCg.CompRest prog w A h₀ L m env elt x scope cl s (fun _ => True) (SignAt y) Fin j i ys news := by
    intro j
    induction j with
    | zero =>
      intro i ys hi hy
      have e : i = y.cps.toList.length := by omega
      subst e
      rw [List.take_length] at hy
      exact LCg.CompRest.zero (fin ys hy)
    | succ j ih =>
      intro i ys hi hy
      refine LCg.CompRest.succ ?_
      intro v I oI C oC D m₂ h tk E' hv hC hx F N off ne
      obtain ⟨c, t, hk, hv'⟩ := hv
      have hk' : y.cps.toList[i]? = some c := by rw [← hk]; simp
      rw [hv'] at hx
      refine wpAny_mono (turn c t I oI C oC D m₂ ys h tk E' (List.mem_of_getElem? hk') hC hx F N off ne) (fun y s₂ hq => ?_) fun _ _ e => e
      obtain ⟨h', tk', nw, e, F', N', off', hS, hn, t', hy'⟩ := hq
      rw [hn] at N' off'
      refine ⟨h', tk', news, e, F', N', off', hS, ?_⟩
      rw [hy']
      refine ih (i + 1) _ (by omega) ?_
      rw [List.take_add_one, hk']
      simpa using kct_snoc hy
  exact key y.length 0 [] (by rw [len_cps]; omega) (by simp only [List.take_zero, List.map_nil]; exact .nil)
end
theorem calm7 : True := by k_with_none; trivial
end
end Mine

namespace Mine
section
open PySem PySem.W PyProof.Rows PySem.Calls
section
variable {prog : Program} {w : World} {A A₀ : Around} {s : Shared} {K : Frag} {L : Addr} {h₀ base : Heap} {m mg mb : Str → Option Value} {news : List (Addr × Obj)} {p : Program} {loose : List Str} {mean : ExcName → Option Value}
/-- a def entered upon the whole heap: the callee's ledger begins empty -/
theorem code_defB {env : Env} {outer : List Env} {R : Result → Shared → Prop} {name qual : Str} {params : Arguments} {body : List Stmt} {scope : Scope} {dV kV doc pm cdv ct oc : Value} {an od : Option Addr} {osl : Array (Option Value)} {f : Addr} {args : Args} {binds : List (Str × Value)}
    (B : Below A₀ base outer h₀) (F : Fr h₀ L s.heap m) (X₀ : K.In h₀) (N : News h₀ L s.heap news) (T : Top p loose mean mg mb h₀) (hA : A.frames = some (env :: outer)) (hf : env.frame = some L) (hke : env.scope.kind = .function)
    (ho : K.lookup f = some ⟨oc, od, .func (fnOf name qual params body scope dV kV doc pm an cdv ct), osl⟩) (hcd : codeIn K cdv qual = true) (hroom : A.depth < recursionLimit)
    (hbind : BindsTo s (fnOf name qual params body scope dV kV doc pm an cdv ct) args binds) (hloc : ∀ y ∈ binds, scope.names.lookup y.1 = some .local)
    (h : ∀ g L' h₁, Fr h₀ L g m → Fr g L' h₁ (fun y => binds.reverse.lookup y) → News g L' h₁ [] → Below A base (env :: outer) g → K.In g → Top p loose mean mg mb g → News h₀ L g news →
      wpAny (model prog w) (A.deeper (envOf qual scope L' f cdv)) (execs body (envOf qual scope L' f cdv))
        (fun fl s' => LeaveK h₀ L m g R (match fl with | .ret v => v | _ => .none) s')
        (fun e s' => wpAny (model prog w) (A.deeper (envOf qual scope L' f cdv)) (leaving (envOf qual scope L' f cdv) e) (fun _ s'' => R (.error e) s'') (fun e' s'' => R (.error e') s'') s')
        { s with heap := h₁, toks := s.toks + binds.length })
    (hco : scope.isCoroutine = false) (hgen : scope.isGenerator = false) (hk : scope.kind = .function)
    (hcell : ∀ x ∈ scope.names, x.2 ≠ .cell) : codeAny (model prog w) A (.call (.ref f) args) R s := by
  have st : h₀.StaysIn s.heap := fun b o e => F.keep b o e
  have B₁ := pushX B F hf hke
  have BG : Below A base (env :: outer) s.heap := ⟨hA, fun b o e => st b o (B.stays b o e), B₁.frames⟩
  refine codeAny_call_def (fd := fnX name qual params body scope [] dV kV doc pm an cdv ct) (body := body) (binds := binds) hroom ((X₀.keeps F.keep) _ _ ho) rfl (T.nolimit.keeps F.keep) (codeRec_of (X₀.keeps F.keep) hcd) rfl hbind hcell hloc (fun h₁ hns hk₁ => ?_) hco hgen hk
  refine wpAny_mono (h s.heap s.heap.objs.size h₁ F ⟨hns, hk₁, Nat.le_refl _⟩ (fun _ hp => nomatch hp) BG (X₀.keeps st) (T.keeps st) N) (fun fl s' hl => ?_) fun _ _ y => y
  obtain ⟨L', m', news', F', N', k⟩ := hl
  refine k (F.keeps F'.keep) fun q hq => ?_
  have h3 := N' q hq
  refine ⟨h3.1, fun e => ?_, ?_⟩
  · obtain ⟨oL, _, _, hL, _⟩ := F.ns
    have := h3.2.2
    rw [e, hL] at this
    cases this
  · cases q2 : h₀.get? q.1 with
    | none => rfl
    | some o =>
      have := h3.2.2
      rw [F.keep _ _ q2] at this
      cases this
end
theorem calm8 : True := by k_with_none; trivial
end
end Mine

namespace Mine
section
open PySem PySem.W PyProof.Rows
set_option maxHeartbeats 8000000
abbrev P01 : Program := PySem.Challenge.rw_ph0179_01.row.prog
theorem tj (q : Str) (ys : List Str) : Txt.join q ys = Str.join q ys := StrLaws.glued_eq_join q ys
theorem jok {l : List (Str × Tok)} {x p q : Str} (e : l.map (·.1) = Txt.split x p) (hp : (p.length == 0) = false) (hx : x.length + 2 ≤ 1048576) (hq : q.length ≤ 10) :
    ((l.map (·.1)).map (·.length)).sum + (l.map (·.1)).length * q.length ≤ 16777216 := by
  have hp1 : 1 ≤ p.length := by
    rw [beq_eq_false_iff_ne] at hp; omega
  rw [e]
  have hw := split_weight x p hp1
  have h2 : (Txt.split x p).length * q.length ≤ (Txt.split x p).length * 10 := Nat.mul_le_mul_left _ hq
  omega
theorem newsTail {h₀ h : Heap} {L : Addr} {p : Addr × Obj} {news : List (Addr × Obj)} (N : News h₀ L h (p :: news)) : News h₀ L h news := fun q hq => N q (List.Mem.tail _ hq)
theorem newsMid {h₀ h : Heap} {L : Addr} {p : Addr × Obj} {pre news : List (Addr × Obj)} (N : News h₀ L h (p :: (pre ++ news))) : News h₀ L h (p :: news) := fun q hq => by
  rcases List.mem_cons.mp hq with rfl | hq
  · exact N _ (List.Mem.head _)
  · exact N _ (List.Mem.tail _ (List.mem_append_right _ hq))
local macro_rules | `(tactic| walk_at "truthy ref") => `(tactic| (k_here; k_dflt (refine' ktl_truthyK ?N ?m ?z ?_; (case N => k_asm); (case m => k_mem); (case z => ((simp only [List.length_cons, List.length_map] at *); omega)); k_whole); (try simp only [List.isEmpty_cons, List.isEmpty_nil, Bool.not_false, Bool.not_true])))
local macro_rules | `(tactic| walk_at "call builtin:str.split") => `(tactic| (k_here; refine' KSpl.split1 ?F ?N ?y ?_ ?z; (case F => k_asm); (case N => k_asm); (case y => assumption); (case z => assumption); intro D' l' h' k' e' a' F' N' l1; (try k_lt l1)))
local macro_rules | `(tactic| walk_at "call builtin:str.join") => `(tactic| (k_here; refine' join_list (News.isList (by k_asm) (by k_mem)) ?a ?b ?_; (case a => assumption); (case b => exact jok (by assumption) (by assumption) (by assumption) (by assumption)); intro t' k'))
theorem frameTP (a b : Str) (v1 v2 w1 w2 : Option Value) : (fun y : Str => if y = a then v1 else if y = b then v2 else if y = a then w1 else if y = b then w2 else none) = fun y : Str => if y = a then v1 else if y = b then v2 else none := by
  funext y
  by_cases h1 : y = a
  · simp only [if_pos h1]
  · by_cases h2 : y = b
    · simp only [if_neg h1, if_pos h2]
    · simp only [if_neg h1, if_neg h2]
theorem seqIdx {j n : Nat} (h : j < n) : seqIndex? (j : Int) n = some j := by
  unfold seqIndex?
  have h0 : ¬ ((j : Int) < 0) := by omega
  simp only [if_neg h0]
  have h1 : (decide (0 ≤ (j : Int)) && decide ((j : Int) < (n : Int))) = true := by
    simp only [Bool.and_eq_true, decide_eq_true_eq]; omega
  rw [if_pos h1]
  rfl
section
variable {prog : Program} {w : World} {A : Around} {E : Value → Shared → Prop} {s : Shared} {h₀ : Heap} {L : Addr} {m : Str → Option Value} {news : List (Addr × Obj)}
theorem itemT {value slice : PySem.Expr} {t : Addr} {l : List Value} {k : Int} {u : Tok} {x : Value} {Q : Value → Shared → Prop} (N : News h₀ L s.heap news) (hm : (t, ({ cls := .type "tuple", data := .seq l.toArray } : Obj)) ∈ news) (j : Nat)
    (hk : k = (j : Int)) (hj : j < 1000000) (hx : l[j]? = some x) (h : Q x s)
    (hs : subscripted slice false (.ref t) (.int k u) = operate [.ref t, .int k u] (getItem (.ref t) (.int k u)) := by with_unfolding_all rfl) (hg : ∀ r, letTemporaryGo value (.ref t) r = pure () := by intro _; with_unfolding_all rfl) :
    wpAny (model prog w) A (subscriptTail value slice (.ref t) (.int k u)) Q E s := by
  subst hk
  have hlt : j < l.length := by
    rcases Nat.lt_or_ge j l.length with h | h
    · exact h
    · rw [List.getElem?_eq_none h] at hx; cases hx
  exact item_tupleL (j := j) (News.isTup N hm) (by omega) (by omega) (seqIdx hlt) hx h hs hg
theorem cut2 {value slice : PySem.Expr} {t : Addr} {a b : Value} {l : List Value} {u : Tok} {Q : Value → Shared → Prop}
    (F : Fr h₀ L s.heap m) (N : News h₀ L s.heap news) (hm : (t, ({ cls := .type "tuple", data := .seq (a :: b :: l).toArray } : Obj)) ∈ news) (hz : l.length ≤ 1000)
    (h : ∀ D h', Fr h₀ L h' m → News h₀ L h' ((D, { cls := .type "tuple", data := .seq l.toArray }) :: news) → (∀ p ∈ news, p.1 < D) → Q (.ref D) { s with heap := h' })
    (hs : subscripted slice false (.ref t) (.ref s.heap.objs.size) = operate [.ref s.heap.objs.size, .ref t] (getItem (.ref t) (.ref s.heap.objs.size)) := by with_unfolding_all rfl)
    (hg : ∀ r, letTemporaryGo value (.ref t) r = pure () := by intro _; with_unfolding_all rfl) :
    wpAny (model prog w) A (subscriptTail value slice (.ref t) (.ref s.heap.objs.size)) Q E { s with heap := s.heap.push { cls := .type "slice", data := .fields #[.int 2 u, .none, .none] } } := by
  have e : sizeLine = 16777216 := by decide
  refine slice_tuple_from (a := 2) F N (News.isTup N hm) (by decide) (by simp) (fun h' F' N' => h _ h' F' N' fun p hp => Nat.lt_succ_of_lt (Heap.lt_size (N p hp).1)) hs hg (by simp only [List.size_toArray, List.length_cons]; omega)
end
local macro_rules | `(tactic| walk_at "subscriptTail Name Constant ref int") => `(tactic| (k_here; k_dflt (first | (refine' itemT ?N ?m 0 ?k ?j ?x ?_ ?s ?t; (case N => k_asm); (case m => k_mem); (case k => exact rfl); (case j => decide); (case x => exact rfl); (case s => with_unfolding_all rfl); (case t => kmk_pure); k_whole) | (refine' itemT ?N ?m 1 ?k ?j ?x ?_ ?s ?t; (case N => k_asm); (case m => k_mem); (case k => exact rfl); (case j => decide); (case x => exact rfl); (case s => with_unfolding_all rfl); (case t => kmk_pure); k_whole))))
local macro_rules | `(tactic| walk_at "subscriptTail Name Slice ref ref") => `(tactic| (k_here; k_dflt (refine' cut2 ?F ?N ?m ?z ?_ ?s ?t; (case F => k_asm); (case N => k_asm); (case m => k_mem); (case z => ((simp only [List.length_cons, List.length_map] at *); omega)); (case s => with_unfolding_all rfl); (case t => kmk_pure); k_whole); intro D' h' F' N' l1; (try k_lt l1)))
theorem rp {w : World} {mean : ExcName → Option Value} {mg mb : Str → Option Value} {dp un : Nat} {gd : Option (List Code)} {cn : Str} {cs : Scope} {a : Addr} {ccd : Value} {cl : List (Str × Addr)} {outer : List Env} {A₀ : Around} {base h₀ : Heap} {L : Addr} {m : Str → Option Value} {news : List (Addr × Obj)} {s : Shared} {Q E : Value → Shared → Prop}
    {x : Str} {tx : Tok} {vs : List Value} {ys : List Str}
    (B : Below A₀ base outer h₀) (F : Fr h₀ L s.heap m) (X : (hd01.heap_39 w.params).In h₀) (N : News h₀ L s.heap news) (T : Top hd01.view_39 (looseW hd01.view_39 []) mean mg mb h₀) (hk : cs.kind = .function)
    (hv : StrsAre vs ys) (hl : RepOk x ys) (hlen : ys.length ≤ 26) (hd : dp + 1 < recursionLimit) (hu : un + 8 < cLine)
    (hret : ∀ (t : Tok) (h' : Heap) (tk' : Nat), Fr h₀ L h' m → News h₀ L h' news → Q (.str (rep x ys) t) { s with heap := h', toks := tk' }) :
    wpAny (model PySem.Challenge.rw_ph0179_01.row.prog w) (ktrTop dp un gd cn cs L a ccd cl outer) (call (.ref 21) (.str x tx :: vs)) Q E s := by
  revert X; k_fill; intro X
  obtain ⟨l, rfl, rfl⟩ := strsAre_values hv
  clear hv
  rw [List.length_map] at hlen
  refine wpAny_call ?_
  refine' kp_rest (vs := strValues l) (g₁ := fun D => some [("text", .str x tx), ("pairs", .ref D)]) (binds := fun D => [("text", .str x tx), ("pairs", .ref D)]) ?k1 ?k2 ?k3 ?k4 ?k5 ?kA ?kF ?kK ?k6 ?k7 ?k8 ?kV ?kP ?kG ?kB ?_ ?c2 ?c3 ?c4 ?c5
  case k1 => k_asm
  case k2 => k_asm
  case k3 => k_asm
  case k4 => k_asm
  case k5 => k_asm
  case kA => exact rfl
  case kF => exact rfl
  case kK => assumption
  case k6 => k_is
  case k7 => k_is
  case k8 => ktr_room
  case kV => exact rfl
  case kP =>
    clear hl hret
    iterate 27 (rcases l with _ | ⟨⟨p, t⟩, l⟩; · exact rfl)
    simp only [List.length_cons] at hlen
    omega
  case kG => exact fun _ => rfl
  case kB => exact fun _ => locs rfl
  case c5 => decide
  case c2 => exact rfl
  case c3 => exact rfl
  case c4 => exact rfl
  k_whole
  intro D' g' L' h' l1 FG' F' N' B' X' T'
  (try k_lt l1); (try dsimp only); (try k_lift B'); (try k_fold)
  refine wpAny_execs_cons ?_
  refine While_inv2 (n₀ := l.length) (fun n m₁ nx => ∃ (xt : Str) (tt : Tok) (lt : List (Str × Tok)) (D : Addr), n = lt.length ∧ m₁ = (fun y : Str => if y = ("pairs" : Str) then some (Value.ref D) else if y = ("text" : Str) then some (Value.str xt tt) else none) ∧ lt.length ≤ 26 ∧ nx = (D, ({ cls := .type "tuple", data := .seq (strValues lt).toArray } : Obj)) :: news ∧ rep xt (lt.map (·.1)) = rep x (l.map (·.1)) ∧ RepOk xt (lt.map (·.1))) F' N' ?hJ ?turn ?hE
  case hJ =>
    refine ⟨x, tx, l, D', rfl, ?_, hlen, rfl, rfl, hl⟩
    funext y
    show List.lookup y [("pairs", Value.ref D'), ("text", Value.str x tx)] = _
    by_cases h1 : y = ("pairs" : Str)
    · subst h1; rfl
    · by_cases h2 : y = ("text" : Str)
      · subst h2; rfl
      · simp [List.lookup, h1, h2, beq_eq_false_iff_ne.mpr h1, beq_eq_false_iff_ne.mpr h2]
  case hE => passes_own
  rintro n m₁ nx h₁ tk₁ F₁ N₁ ⟨xt, tt, lt, D, hn, hm, hlt, hnx, hrep, hok⟩
  subst hn hm hnx
  clear F' N'
  rcases lt with _ | ⟨⟨p, tp⟩, _ | ⟨⟨q, tq⟩, r⟩⟩
  · simp only [strValues, List.map_nil, List.map_cons] at N₁ hrep
    k_steps
    have e0 : xt = rep x (List.map (fun x => x.fst) l) := hrep
    rw [e0]
    exact hret _ _ _ (by assumption) (newsTail (by assumption))
  · exact hok.elim
  · simp only [strValues, List.map_nil, List.map_cons] at N₁ hrep hok
    obtain ⟨hp0, hxs, hq, hok⟩ := hok
    have hz1 : xt.length + 2 ≤ sizeLine := Nat.le_trans hxs (by decide)
    k_steps
    rename_i F9 N9
    rename List.map _ _ = Txt.split _ _ => e9
    rw [e9, tj] at F9
    exact ⟨_, _, _, _, r.length, rfl, F9, newsMid (pre := [_, _]) N9, by simp only [List.length_cons]; omega, _, _, r, _, rfl, frameTP _ _ _ _ _ _, by simp only [List.length_cons] at hlt; omega, rfl, hrep, hok⟩
theorem calm9 : True := by k_with_none; trivial
end
end Mine

namespace Mine
section
open PySem PySem.W PyProof.Rows
set_option maxHeartbeats 400000
local macro_rules | `(tactic| walk_at "idle") => `(tactic| skip)
local macro_rules | `(tactic| walk_at "idle") => `(tactic| skip)
local macro_rules | `(tactic| walk_at "idle") => `(tactic| skip)
local macro_rules | `(tactic| walk_at "idle") => `(tactic| skip)
local macro_rules | `(tactic| walk_at "idle") => `(tactic| skip)
theorem rep_strikesS (x : Str) : rep x strikes = S (strike x.cps.toList) := by
  conv => lhs; rw [S_of x]
  exact rep_strikes _
theorem repOk_strikesS (x : Str) (h : x.length + 2 ≤ 1048576) : RepOk x strikes := by
  rw [S_of x]
  exact repOk_strikes _ (by rw [← len_cps]; exact h)
theorem rp8 {w : World} {mean : ExcName → Option Value} {mg mb : Str → Option Value} {dp un : Nat} {gd : Option (List Code)} {cn : Str} {cs : Scope} {a : Addr} {ccd : Value} {cl : List (Str × Addr)} {outer : List Env} {A₀ : Around} {base h₀ : Heap} {L : Addr} {m : Str → Option Value} {news : List (Addr × Obj)} {s : Shared} {Q E : Value → Shared → Prop}
    {x : Str} {tx : Tok} {vs : List Value}
    (B : Below A₀ base outer h₀) (F : Fr h₀ L s.heap m) (X : (hd01.heap_39 w.params).In h₀) (N : News h₀ L s.heap news) (T : Top hd01.view_39 (looseW hd01.view_39 []) mean mg mb h₀) (hk : cs.kind = .function)
    (hv : StrsAre vs strikes) (hx : x.length + 2 ≤ 1048576) (hd : dp + 1 < recursionLimit) (hu : un + 8 < cLine)
    (hret : ∀ (t : Tok) (h' : Heap) (tk' : Nat), Fr h₀ L h' m → News h₀ L h' news → Q (.str (S (strike x.cps.toList)) t) { s with heap := h', toks := tk' }) :
    wpAny (model PySem.Challenge.rw_ph0179_01.row.prog w) (ktrTop dp un gd cn cs L a ccd cl outer) (call (.ref 21) (.str x tx :: vs)) Q E s :=
  rp B F X N T hk hv (repOk_strikesS x hx) (by decide) hd hu (fun t h' tk' F' N' => by rw [rep_strikesS]; exact hret t h' tk' F' N')
local macro_rules | `(tactic| walk_at "call ref") => `(tactic| (k_here; (with_reducible show wpAny _ _ (call (Value.ref 21) [_, _, _, _, _, _, _, _, _]) _ _ _); k_dflt (refine' rp8 ?B ?F ?X ?N ?T ?K ?v ?o ?d ?u ?_; (case B => k_asm); (case F => k_asm); (case X => k_asm); (case N => k_asm); (case T => k_asm); (case K => first | exact rfl | assumption); (case v => repeat' (first | exact StrsAre.nil | refine' StrsAre.cons _ _ ?_)); (case o => omega); (case d => ktr_room); (case u => ktr_units)); intro t' h' tk' F' N'; (try k_fold)))
theorem newsLeft {h₀ h : Heap} {L : Addr} {news own : List (Addr × Obj)} (N : News h₀ L h (news ++ own)) : News h₀ L h news := fun q hq => N q (List.mem_append_left _ hq)
theorem st_next {x y : Str} {pre : List Int} {k : Int} (h : red y.cps.toList = red x.cps.toList) (h2 : y.length + pre.length ≤ x.length) (h3 : (S (strike y.cps.toList) == y) = false) :
    red (S (strike y.cps.toList)).cps.toList = red x.cps.toList ∧ (S (strike y.cps.toList)).length + (pre ++ [k]).length ≤ x.length := by
  refine ⟨by rw [S_cps, red_strikes, h], ?_⟩
  have hne : strike y.cps.toList ≠ y.cps.toList := fun e => by
    rw [e, ← S_of] at h3
    simp at h3
  have := strike_less hne
  rw [S_length, List.length_append, List.length_singleton]
  rw [len_cps y] at h2
  omega
theorem st_same {x y : Str} (h : red y.cps.toList = red x.cps.toList) (h3 : (S (strike y.cps.toList) == y) = true) : y = S (red x.cps.toList) := by
  have e := eq_of_beq h3
  have e2 : strike y.cps.toList = y.cps.toList := by
    have := congrArg (fun z : Str => z.cps.toList) e
    simpa using this
  rw [← h, (strike_same (by rw [e2])).2]
theorem st_done {x y : Str} (h : red y.cps.toList = red x.cps.toList) (h2 : y.length + (rangeKs 0 ((x.length : Int) - 0).toNat).length ≤ x.length) : y = S (red x.cps.toList) := by
  rw [rangeKs_length] at h2
  have e : y.cps.toList = [] := List.length_eq_zero_iff.mp (by rw [← len_cps]; omega)
  rw [← h]
  exact (S_eq e).trans (by rw [e]; rfl)
theorem struck {w : World} {mean : ExcName → Option Value} {mg mb : Str → Option Value} {dp un : Nat} {gd : Option (List Code)} {cn : Str} {cs : Scope} {a : Addr} {ccd : Value} {cl : List (Str × Addr)} {outer : List Env} {A₀ : Around} {base h₀ : Heap} {L : Addr} {m : Str → Option Value} {news : List (Addr × Obj)} {s : Shared} {Q E : Value → Shared → Prop}
    {x : Str} {tx : Tok}
    (B : Below A₀ base outer h₀) (F : Fr h₀ L s.heap m) (X : (hd01.heap_39 w.params).In h₀) (N : News h₀ L s.heap news) (T : Top hd01.view_39 (looseW hd01.view_39 []) mean mg mb h₀) (hk : cs.kind = .function)
    (hx : x.length + 2 ≤ 1048576) (hd : dp + 2 < recursionLimit) (hu : un + 16 < cLine)
    (hret : ∀ (t : Tok) (h' : Heap) (tk' : Nat), Fr h₀ L h' m → News h₀ L h' news → Q (.str (S (red x.cps.toList)) t) { s with heap := h', toks := tk' }) :
    wpAny (model PySem.Challenge.rw_ph0179_01.row.prog w) (ktrTop dp un gd cn cs L a ccd cl outer) (call (.ref 35) [.str x tx]) Q E s := by
  revert X; k_fill; intro X
  refine wpAny_call ?_
  k_dflt cell_enter
  (k_with "pyIter ref" => k_state (fun pre (y : Str) => red y.cps.toList = red x.cps.toList ∧ y.length + pre.length ≤ x.length) "word")
  (k_with "state" => (first | exact ⟨rfl, Nat.le_refl _⟩ | exact st_next (by assumption) (by assumption) (by assumption)))
  k_steps
  · exact cb_retS (Q := Q) hret (st_same (by assumption) (by assumption)) (by assumption) (newsLeft (by assumption))
  · exact cb_retS (Q := Q) hret (st_done (by assumption) (by assumption)) (by assumption) (by assumption)
theorem calm10 : True := by k_with_none; trivial
end
end Mine

namespace Mine
section
open PySem PySem.W PyProof.Rows
set_option maxHeartbeats 4000000
local macro_rules | `(tactic| walk_at "idle") => `(tactic| skip)
local macro_rules | `(tactic| walk_at "idle") => `(tactic| skip)
local macro_rules | `(tactic| walk_at "idle") => `(tactic| skip)
local macro_rules | `(tactic| walk_at "idle") => `(tactic| skip)
local macro_rules | `(tactic| walk_at "idle") => `(tactic| skip)
local macro_rules | `(tactic| walk_at "idle") => `(tactic| skip)
theorem newsPick {h₀ h : Heap} {L : Addr} {D : Addr} {o : Obj} {news big : List (Addr × Obj)} (N : News h₀ L h big) (hm : (D, o) ∈ big) (hs : ∀ p ∈ news, p ∈ big) : News h₀ L h ((D, o) :: news) := fun q hq => by
  rcases List.mem_cons.mp hq with rfl | hq
  · exact N _ hm
  · exact N _ (hs _ hq)
theorem strs_eq {vs : List Value} {ys zs : List Str} (h : StrsAre vs ys) (e : ys = zs) : StrsAre vs zs := e ▸ h
theorem itemL {prog : Program} {w : World} {A : Around} {E : Value → Shared → Prop} {s : Shared} {h₀ : Heap} {L : Addr} {news : List (Addr × Obj)} {value slice : PySem.Expr} {t : Addr} {l : List Value} {k : Int} {u : Tok} {x : Value} {Q : Value → Shared → Prop} (N : News h₀ L s.heap news) (hm : (t, listOf l.toArray 0) ∈ news) (j : Nat)
    (hk : k = (j : Int)) (hj : j < 1000000) (hx : l[j]? = some x) (h : Q x s)
    (hs : subscripted slice false (.ref t) (.int k u) = operate [.ref t, .int k u] (getItem (.ref t) (.int k u)) := by with_unfolding_all rfl) :
    wpAny (model prog w) A (subscriptTail value slice (.ref t) (.int k u)) Q E s := by
  subst hk
  have hl := News.isList N hm
  exact tail_any hl.typeIs slot_list_getitem.lookup (wpAny_getItem_list hl (by omega) (by omega) (by simpa using hx) h) hs
local macro_rules | `(tactic| walk_at "subscriptTail") => `(tactic| (k_here; (with_reducible show wpAny _ _ (subscriptTail _ _ (Value.ref _) (Value.int _ _)) _ _ _); k_dflt (first
  | (refine' itemL ?zN ?zm 0 ?zk ?zj ?zx ?_ ?zs; (case zN => k_asm); (case zm => k_mem); (case zk => omega); (case zj => decide); (case zx => exact rfl); (case zs => with_unfolding_all rfl); k_whole)
  | (refine' itemL ?zN ?zm 1 ?zk ?zj ?zx ?_ ?zs; (case zN => k_asm); (case zm => k_mem); (case zk => omega); (case zj => decide); (case zx => exact rfl); (case zs => with_unfolding_all rfl); k_whole)
  | (refine' itemL ?zN ?zm 2 ?zk ?zj ?zx ?_ ?zs; (case zN => k_asm); (case zm => k_mem); (case zk => omega); (case zj => decide); (case zx => exact rfl); (case zs => with_unfolding_all rfl); k_whole))))
theorem pairs {w : World} {mean : ExcName → Option Value} {mg mb : Str → Option Value} {dp un : Nat} {gd : Option (List Code)} {cn : Str} {cs : Scope} {a : Addr} {ccd : Value} {cl : List (Str × Addr)} {outer : List Env} {A₀ : Around} {base h₀ : Heap} {L : Addr} {m : Str → Option Value} {news : List (Addr × Obj)} {s : Shared} {Q E : Value → Shared → Prop}
    {k : Int} {tx : Tok}
    (B : Below A₀ base outer h₀) (F : Fr h₀ L s.heap m) (X : (hd01.heap_39 w.params).In h₀) (N : News h₀ L s.heap news) (T : Top hd01.view_39 (looseW hd01.view_39 []) mean mg mb h₀) (hk : cs.kind = .function)
    (hx : isK k) (hd : dp + 1 < recursionLimit) (hu : un + 8 < cLine)
    (hret : ∀ (D : Addr) (vs : List Value) (h' : Heap) (tk' : Nat), StrsAre vs (pairTexts k) → Fr h₀ L h' m → News h₀ L h' ((D, listOf vs.toArray 0) :: news) → Q (.ref D) { s with heap := h', toks := tk' }) :
    wpAny (model PySem.Challenge.rw_ph0179_01.row.prog w) (ktrTop dp un gd cn cs L a ccd cl outer) (call (.ref 28) [.int k tx]) Q E s := by
  revert X; k_fill; intro X
  have hk11 : k = 0 ∨ k = 1 ∨ k = 2 ∨ k = 3 ∨ k = 4 ∨ k = 5 ∨ k = 6 ∨ k = 7 ∨ k = 8 ∨ k = 9 ∨ k = 10 := by have := hx.1; have := hx.2; omega
  clear hx
  rcases hk11 with hx | hx | hx | hx | hx | hx | hx | hx | hx | hx | hx
  all_goals (
    first | (have hm2 : k.fmod 2 = 0 := by rw [hx]; decide) | (have hm2 : k.fmod 2 = 1 := by rw [hx]; decide)
    first | (have hm4 : k.fmod 4 = 0 := by rw [hx]; decide) | (have hm4 : k.fmod 4 = 1 := by rw [hx]; decide) | (have hm4 : k.fmod 4 = 2 := by rw [hx]; decide) | (have hm4 : k.fmod 4 = 3 := by rw [hx]; decide)
    refine wpAny_call ?_
    k_dflt cell_enter
    k_steps
    all_goals (first
      | (exfalso; omega)
      | ((refine' hret _ _ _ _ (strs_eq ?zzA ?zzB) (by assumption) (newsPick (by assumption) ?zzM ?zzS))
         (case zzM => k_mem)
         (case zzA => repeat' (first | exact StrsAre.nil | refine' StrsAre.cons _ _ ?_))
         (case zzB => rw [hx]; decide +kernel)
         (case zzS => intro p hp; repeat (first | exact hp | apply List.Mem.tail)))))
theorem calm11 : True := by k_with_none; trivial
end
end Mine

namespace Mine
section
open PySem PySem.W PyProof.Rows
set_option maxHeartbeats 4000000
local macro_rules | `(tactic| walk_at "idle") => `(tactic| skip)
local macro_rules | `(tactic| walk_at "idle") => `(tactic| skip)
local macro_rules | `(tactic| walk_at "idle") => `(tactic| skip)
local macro_rules | `(tactic| walk_at "idle") => `(tactic| skip)
local macro_rules | `(tactic| walk_at "idle") => `(tactic| skip)
local macro_rules | `(tactic| walk_at "idle") => `(tactic| skip)
local macro_rules | `(tactic| walk_at "idle") => `(tactic| skip)
theorem rpK {w : World} {mean : ExcName → Option Value} {mg mb : Str → Option Value} {dp un : Nat} {gd : Option (List Code)} {cn : Str} {cs : Scope} {a : Addr} {ccd : Value} {cl : List (Str × Addr)} {outer : List Env} {A₀ : Around} {base h₀ : Heap} {L : Addr} {m : Str → Option Value} {news : List (Addr × Obj)} {s : Shared} {Q E : Value → Shared → Prop}
    {x : Str} {tx : Tok} {vs : List Value} {k : Int}
    (B : Below A₀ base outer h₀) (F : Fr h₀ L s.heap m) (X : (hd01.heap_39 w.params).In h₀) (N : News h₀ L s.heap news) (T : Top hd01.view_39 (looseW hd01.view_39 []) mean mg mb h₀) (hk : cs.kind = .function)
    (hv : StrsAre vs (pairTexts k)) (hK : isK k) (hx : letters x.cps.toList) (hn : x.length ≤ 1000) (hd : dp + 1 < recursionLimit) (hu : un + 8 < cLine)
    (hret : ∀ (t : Tok) (h' : Heap) (tk' : Nat), (S (phi k x.cps.toList)).length + 2 ≤ 1048576 → Fr h₀ L h' m → News h₀ L h' news → Q (.str (S (phi k x.cps.toList)) t) { s with heap := h', toks := tk' }) :
    wpAny (model PySem.Challenge.rw_ph0179_01.row.prog w) (ktrTop dp un gd cn cs L a ccd cl outer) (call (.ref 21) (.str x tx :: vs)) Q E s := by
  have e : rep x (pairTexts k) = S (phi k x.cps.toList) := by
    conv => lhs; rw [S_of x]
    exact rep_pairs hK hx
  have hz : (S (phi k x.cps.toList)).length + 2 ≤ 1048576 := by
    have := phi_length k x.cps.toList
    rw [← len_cps] at this
    rw [S_length]; omega
  refine rp B F X N T hk hv ?_ (pairTexts_length hK) hd hu (fun t h' tk' F' N' => by rw [e]; exact hret t h' tk' hz F' N')
  rw [S_of x]
  exact repOk_pairs hK (by rw [← len_cps]; exact hn)
theorem strs_len {vs : List Value} {ys : List Str} (h : StrsAre vs ys) : vs.length = ys.length := by
  induction h with
  | nil => rfl
  | cons y t r ih => rw [List.length_cons, List.length_cons, ih]
theorem strs_fit {vs : List Value} {k : Int} (h : StrsAre vs (pairTexts k)) (hK : isK k) : vs.toArray.size ≤ sizeLine := by
  have h1 := strs_len h
  have h2 := pairTexts_length hK
  have e : sizeLine = 16777216 := by decide
  rw [List.size_toArray]
  omega
local macro_rules | `(tactic| walk_at "call ref") => `(tactic| (k_here; (with_reducible show wpAny _ _ (call (Value.ref 28) _) _ _ _); k_dflt (refine' pairs ?B ?F ?X ?N ?T ?K ?o ?d ?u ?_; (case B => k_asm); (case F => k_asm); (case X => k_asm); (case N => k_asm); (case T => k_asm); (case K => first | exact rfl | assumption); (case o => assumption); (case d => ktr_room); (case u => ktr_units)); intro D' vs' h' tk' hV' F' N'; (try k_fold)))
local macro_rules | `(tactic| walk_at "call ref") => `(tactic| (k_here; (with_reducible show wpAny _ _ (call (Value.ref 21) _) _ _ _); (try simp only [List.append_nil]); k_dflt (refine' rpK ?B ?F ?X ?N ?T ?K ?v ?o ?l ?n ?d ?u ?_; (case B => k_asm); (case F => k_asm); (case X => k_asm); (case N => k_asm); (case T => k_asm); (case K => first | exact rfl | assumption); (case v => assumption); (case o => assumption); (case l => assumption); (case n => assumption); (case d => ktr_room); (case u => ktr_units)); intro t' h' tk' hZ' F' N'; (try k_fold)))
local macro_rules | `(tactic| walk_at "call ref") => `(tactic| (k_here; (with_reducible show wpAny _ _ (call (Value.ref 35) _) _ _ _); k_dflt (refine' struck ?B ?F ?X ?N ?T ?K ?o ?d ?u ?_; (case B => k_asm); (case F => k_asm); (case X => k_asm); (case N => k_asm); (case T => k_asm); (case K => first | exact rfl | assumption); (case o => assumption); (case d => ktr_room); (case u => ktr_units)); intro t' h' tk' F' N'; (try k_fold)))
local macro_rules | `(tactic| walk_at "StarOf ref") => `(tactic| (k_here; k_dflt (refine' star_seq ?k1 ?k2 ?m ?c ?d ?T ?e ?z ?_; (case k1 => k_asm); (case k2 => k_asm); (case m => k_mem); (case c => exact rfl); (case d => exact rfl); (case T => first | exact .inl rfl | exact .inr rfl); (case e => exact rfl); (case z => exact strs_fit (by assumption) (by assumption)); k_whole); intro h' F' N'; (try k_sweep); try dsimp only [List.nil_append, List.cons_append]))
theorem moved {w : World} {mean : ExcName → Option Value} {mg mb : Str → Option Value} {dp un : Nat} {gd : Option (List Code)} {cn : Str} {cs : Scope} {a : Addr} {ccd : Value} {cl : List (Str × Addr)} {outer : List Env} {A₀ : Around} {base h₀ : Heap} {L : Addr} {m : Str → Option Value} {news : List (Addr × Obj)} {s : Shared} {Q E : Value → Shared → Prop}
    {x : Str} {k : Int} {tx tk : Tok}
    (B : Below A₀ base outer h₀) (F : Fr h₀ L s.heap m) (X : (hd01.heap_39 w.params).In h₀) (N : News h₀ L s.heap news) (T : Top hd01.view_39 (looseW hd01.view_39 []) mean mg mb h₀) (hk : cs.kind = .function)
    (hx : letters x.cps.toList) (hn : x.length ≤ 1000) (hK : isK k) (hd : dp + 3 < recursionLimit) (hu : un + 32 < cLine)
    (hret : ∀ (t : Tok) (h' : Heap) (tk' : Nat), Fr h₀ L h' m → News h₀ L h' news → Q (.str (S (red (phi k x.cps.toList))) t) { s with heap := h', toks := tk' }) :
    wpAny (model PySem.Challenge.rw_ph0179_01.row.prog w) (ktrTop dp un gd cn cs L a ccd cl outer) (call (.ref 42) [.str x tx, .int k tk]) Q E s := by
  revert X; k_fill; intro X
  refine wpAny_call ?_
  k_dflt cell_enter
  k_steps
  exact cb_retS (Q := Q) hret (by rw [S_cps]) (by assumption) (newsTail (by assumption))
theorem calm12 : True := by k_with_none; trivial
end
end Mine

namespace Mine
section
open PySem PySem.W PyProof.Rows
set_option maxHeartbeats 1000000
local macro_rules | `(tactic| walk_at "idle") => `(tactic| skip)
local macro_rules | `(tactic| walk_at "idle") => `(tactic| skip)
local macro_rules | `(tactic| walk_at "idle") => `(tactic| skip)
local macro_rules | `(tactic| walk_at "idle") => `(tactic| skip)
local macro_rules | `(tactic| walk_at "idle") => `(tactic| skip)
local macro_rules | `(tactic| walk_at "idle") => `(tactic| skip)
local macro_rules | `(tactic| walk_at "idle") => `(tactic| skip)
local macro_rules | `(tactic| walk_at "idle") => `(tactic| skip)
local macro_rules | `(tactic| walk_at "idle") => `(tactic| skip)
local macro_rules | `(tactic| walk_at "idle") => `(tactic| skip)
local macro_rules | `(tactic| walk_at "idle") => `(tactic| skip)
local macro_rules | `(tactic| walk_at "eval ListComp") => `(tactic| (k_here; k_dflt (refine ListComp_S (_F₀ := by k_asm) (by with_unfolding_all rfl) (by decide) (by rfl) (by decide) (by rfl) ?_)))
theorem allNe {news : List (Addr × Obj)} {d c : Nat} (h : ∀ p ∈ news, p.1 < d) (hc : d ≤ c) : ∀ p ∈ news, p.1 ≠ c := fun p hp e => by have e2 : @Eq Nat p.1 c := e; have e3 : @LT.lt Nat _ p.1 d := h p hp; omega
local macro_rules | `(tactic| k_all) => `(tactic| (refine' allNe ?qA ?qB; (case qA => assumption); (case qB => ((try dsimp only); omega))))
theorem rev_list (x : Str) (u : Tok) : (Txt.sliceBy x none none (-1, u)).cps.toList = x.cps.toList.reverse := by
  rw [step_rev_list]
  apply List.ext_getElem
  · simp [Str.length]
  · intro i h1 h2
    simp only [List.length_map, List.length_range] at h1
    have h3 : x.length - 1 - i < x.cps.size := by have : x.length = x.cps.size := rfl; omega
    simp only [List.getElem_map, List.getElem_range, List.getElem_reverse]
    rw [Array.getD_eq_getD_getElem?, Array.getElem?_eq_getElem h3]
    simp [Str.length]
theorem join_one (cs : List Nat) (g : Nat → Nat) : Str.join (.ofString "") (cs.map fun c => S [g c]) = S (cs.map g) := by
  induction cs with
  | nil => rfl
  | cons c t ih =>
    cases t with
    | nil => rfl
    | cons d r =>
      show S [g c] ++ Str.ofString "" ++ Str.join (Str.ofString "") ((d :: r).map fun c => S [g c]) = _
      rw [ih, show Str.ofString "" = S [] from rfl, S_append, S_append]
      rfl
theorem contrary {w : World} {mean : ExcName → Option Value} {mg mb : Str → Option Value} {dp un : Nat} {gd : Option (List Code)} {cn : Str} {cs : Scope} {a : Addr} {ccd : Value} {cl : List (Str × Addr)} {outer : List Env} {A₀ : Around} {base h₀ : Heap} {L : Addr} {m : Str → Option Value} {news : List (Addr × Obj)} {s : Shared} {Q E : Value → Shared → Prop}
    {x : Str} {tx : Tok}
    (B : Below A₀ base outer h₀) (F : Fr h₀ L s.heap m) (X : (hd01.heap_39 w.params).In h₀) (N : News h₀ L s.heap news) (T : Top hd01.view_39 (looseW hd01.view_39 []) mean mg mb h₀) (hk : cs.kind = .function)
    (hx : letters x.cps.toList) (hn : x.length ≤ 1000) (hd : dp + 3 < recursionLimit) (hu : un + 32 < cLine)
    (hret : ∀ (t : Tok) (h' : Heap) (tk' : Nat), Fr h₀ L h' m → News h₀ L h' news → Q (.str (S (con x.cps.toList)) t) { s with heap := h', toks := tk' }) :
    wpAny (model PySem.Challenge.rw_ph0179_01.row.prog w) (ktrTop dp un gd cn cs L a ccd cl outer) (call (.ref 47) [.str x tx]) Q E s := by
  revert X; k_fill; intro X
  have hx0 := hx
  refine wpAny_call ?_
  refine' code_defC ?k1 ?k2 ?k3 ?k4 ?k5 ?kA ?kF ?kK ?k6 ?k7 ?k8 ?k9 ?kB ?kD ?_ ?c2 ?c3 ?c4
  case kA => exact rfl
  case kF => exact rfl
  case kK => assumption
  case k1 => k_asm
  case k2 => k_asm
  case k3 => k_asm
  case k4 => k_asm
  case k5 => k_asm
  case k6 => k_is
  case k7 => k_is
  case k8 => ktr_room
  case k9 => exact BindsTo.of_eq rfl
  case kB => exact rfl
  case kD => decide +kernel
  case c2 => exact rfl
  case c3 => exact rfl
  case c4 => exact rfl
  k_whole
  intro g' L' h' tk' cells' FG' F' N' Y' B' X' T' l1
  (try k_lt l1)
  k_cells Y'
  (try simp only [List.cons_append, List.nil_append] at N')
  (try dsimp only)
  (try k_lift B')
  have hLt : L' + 1 < h'.objs.size := Heap.lt_size (N' _ (List.Mem.head _)).1
  (try k_fold)
  k_steps
  refine ⟨_, _, _, rfl, rfl, by assumption, by assumption, ?_, ?_⟩
  · rw [step_rev_len]; exact Nat.le_trans hn (by decide)
  rintro s₂ ⟨hh, rfl⟩
  refine rest_S (fun c => S [inv c]) ?_ ?_
  · intro c t I oI C oC D m₂ ys h tk E' hc hC hx F' N' off ne
    have hcl : isL c := hx0 c (by rw [rev_list] at hc; exact List.mem_reverse.mp hc)
    rcases hcl with rfl | rfl | rfl | rfl
    · rw [show (⟨#[97]⟩ : Str) = Str.ofString "a" from by decide +kernel] at hx
      k_steps
      exact ⟨_, _, _, rfl, F', N', off, trivial, rfl, _, congrArg (fun z => Value.str z _) (by decide +kernel)⟩
    · rw [show (⟨#[65]⟩ : Str) = Str.ofString "A" from by decide +kernel] at hx
      k_steps
      exact ⟨_, _, _, rfl, F', N', off, trivial, rfl, _, congrArg (fun z => Value.str z _) (by decide +kernel)⟩
    · rw [show (⟨#[98]⟩ : Str) = Str.ofString "b" from by decide +kernel] at hx
      k_steps
      exact ⟨_, _, _, rfl, F', N', off, trivial, rfl, _, congrArg (fun z => Value.str z _) (by decide +kernel)⟩
    · rw [show (⟨#[66]⟩ : Str) = Str.ofString "B" from by decide +kernel] at hx
      k_steps
      exact ⟨_, _, _, rfl, F', N', off, trivial, rfl, _, congrArg (fun z => Value.str z _) (by decide +kernel)⟩
  · intro ys hys D h tk F' N' off
    dsimp only
    k_steps
    rw [rev_list] at hys
    refine join_list (News.isList N' (List.Mem.head _)) hys ?_ ?_
    · have e1 : ((x.cps.toList.reverse.map fun c => S [inv c]).map (·.length)).sum = x.length := by
        rw [List.map_map, len_cps, ← List.length_reverse]
        generalize x.cps.toList.reverse = l
        induction l with
        | nil => rfl
        | cons c t ih => rw [List.map_cons, List.sum_cons, ih, List.length_cons]; show 1 + t.length = _; omega
      rw [e1]
      have e2 : (Str.ofString "").length = 0 := by decide +kernel
      rw [e2]
      omega
    intro t9 k9
    dsimp only
    k_steps
    exact cb_retS (Q := Q) hret (by rw [tj, join_one]; unfold con; rw [List.map_reverse]) (by assumption) (newsTail (newsTail (newsTail (by assumption))))
theorem calm13 : True := by k_with_none; trivial
end
end Mine

namespace Mine
section
open PySem PySem.W PyProof.Rows
set_option maxHeartbeats 1000000
theorem cnt_of (x : Str) (y : Str) (c : Nat) (e : y = ⟨#[c]⟩) : Txt.count x y = cnt c x.cps.toList := by
  subst e
  exact count_is x c
theorem counts {w : World} {mean : ExcName → Option Value} {mg mb : Str → Option Value} {dp un : Nat} {gd : Option (List Code)} {cn : Str} {cs : Scope} {a : Addr} {ccd : Value} {cl : List (Str × Addr)} {outer : List Env} {A₀ : Around} {base h₀ : Heap} {L : Addr} {m : Str → Option Value} {news : List (Addr × Obj)} {s : Shared} {Q E : Value → Shared → Prop}
    {x : Str} {tx : Tok}
    (B : Below A₀ base outer h₀) (F : Fr h₀ L s.heap m) (X : (hd01.heap_39 w.params).In h₀) (N : News h₀ L s.heap news) (T : Top hd01.view_39 (looseW hd01.view_39 []) mean mg mb h₀) (hk : cs.kind = .function)
    (hn : x.length ≤ 1000) (hd : dp + 3 < recursionLimit) (hu : un + 32 < cLine)
    (hret : ∀ (D : Addr) (t u : Tok) (h' : Heap) (tk' : Nat), Fr h₀ L h' m → News h₀ L h' ((D, ({ cls := .type "tuple", data := .seq #[.int (da x.cps.toList) t, .int (db x.cps.toList) u] } : Obj)) :: news) → (∀ p ∈ news, p.1 < D) → Q (.ref D) { s with heap := h', toks := tk' }) :
    wpAny (model PySem.Challenge.rw_ph0179_01.row.prog w) (ktrTop dp un gd cn cs L a ccd cl outer) (call (.ref 61) [.str x tx]) Q E s := by
  revert X; k_fill; intro X
  refine wpAny_call ?_
  k_dflt cell_enter
  k_steps
  have ea : Txt.count x (Str.ofString "a") - Txt.count x (Str.ofString "A") = da x.cps.toList := by
    rw [cnt_of x _ 97 (by decide +kernel), cnt_of x _ 65 (by decide +kernel)]; rfl
  have eb : Txt.count x (Str.ofString "b") - Txt.count x (Str.ofString "B") = db x.cps.toList := by
    rw [cnt_of x _ 98 (by decide +kernel), cnt_of x _ 66 (by decide +kernel)]; rfl
  rw [← ea, ← eb] at hret
  rename News h₀ L _ (_ :: news) => N9
  exact hret _ _ _ _ _ (by assumption) N9 (by assumption)
theorem calm14 : True := by k_with_none; trivial
end
end Mine

namespace Mine
section
open PySem PySem.W PyProof.Rows
set_option maxHeartbeats 1000000
local macro_rules | `(tactic| walk_at "idle") => `(tactic| skip)
local macro_rules | `(tactic| walk_at "idle") => `(tactic| skip)
local macro_rules | `(tactic| walk_at "idle") => `(tactic| skip)
local macro_rules | `(tactic| walk_at "idle") => `(tactic| skip)
local macro_rules | `(tactic| walk_at "idle") => `(tactic| skip)
local macro_rules | `(tactic| walk_at "idle") => `(tactic| skip)
local macro_rules | `(tactic| walk_at "idle") => `(tactic| skip)
local macro_rules | `(tactic| walk_at "idle") => `(tactic| skip)
local macro_rules | `(tactic| walk_at "idle") => `(tactic| skip)
local macro_rules | `(tactic| walk_at "idle") => `(tactic| skip)
local macro_rules | `(tactic| walk_at "idle") => `(tactic| skip)
local macro_rules | `(tactic| walk_at "idle") => `(tactic| skip)
theorem two_ends {l : List Nat} (h : 1 < l.length) : ∃ c m d, l = c :: (m ++ [d]) := by
  cases l with
  | nil => simp at h
  | cons c t =>
    refine ⟨c, t.dropLast, t.getLast (fun e => by subst e; simp at h), ?_⟩
    rw [List.dropLast_concat_getLast]
theorem item_first {y : Str} {c : Nat} {t : List Nat} (h : y.cps.toList = c :: t) : Txt.item y 0 = S [c] := by
  rw [S_eq h]
  unfold Txt.item Txt.charAt
  have e : seqIndex? 0 (S (c :: t)).length = some 0 := by
    unfold seqIndex?
    rw [S_length]
    simp
  rw [e]
  simp [S]
theorem item_last {y : Str} {d : Nat} {t : List Nat} (h : y.cps.toList = t ++ [d]) : Txt.item y (-1) = S [d] := by
  rw [S_eq h]
  unfold Txt.item Txt.charAt
  have e : seqIndex? (-1) (S (t ++ [d])).length = some t.length := by
    unfold seqIndex?
    rw [S_length]
    simp
    omega
  rw [e]
  simp [S]
theorem item_letters {y : Str} (h : letters y.cps.toList) (h1 : 1 < (y.length : Int)) : letters (Txt.item y (-1)).cps.toList := by
  obtain ⟨c, m, d, e⟩ := two_ends (l := y.cps.toList) (by rw [← len_cps]; omega)
  have e2 : y.cps.toList = (c :: m) ++ [d] := e
  rw [item_last e2, S_cps]
  intro z hz
  rw [List.mem_singleton.mp hz]
  exact h d (by rw [e2]; simp)
theorem slice_mid {y : Str} {c d : Nat} {m : List Nat} (h : y.cps.toList = c :: (m ++ [d])) : Txt.slice y (some 1) (some (-1)) = S m := by
  have hl : y.length = m.length + 2 := by rw [len_cps, h]; simp
  have e : Builtin.Str.strSliceIndices (some 1) (some (-1)) 1 y.length = Builtin.Str.strSliceIndices (some ((1 : Nat) : Int)) (some ((m.length + 1 : Nat) : Int)) 1 y.length := by
    unfold Builtin.Str.strSliceIndices
    rw [hl]
    simp
    congr 1
    all_goals omega
  have e2 := StrLaws.sliced_plain y (a := 1) (b := m.length + 1) (by omega) (by omega)
  unfold Txt.slice
  split
  · rename_i hc
    rw [e, StrLaws.strSliceIndices_plain (by omega) (by omega)] at hc
    simp at hc
    omega
  · refine S_eq ?_
    show (List.filterMap _ _).toArray.toList = m
    rw [e, e2, h]
    simp
theorem ring_step {y r m : List Nat} {c d : Nat} (hr : RingTo y r) (e : y = c :: (m ++ [d])) (h : c = inv d) : RingTo m r := by
  cases hr with
  | stop hs => exact absurd h (hs c m d e)
  | step h' hr' =>
    have e1 := (List.cons.inj e).2
    have e2 := (List.append_inj' e1 rfl).1
    rw [← e2]; exact hr'
theorem ring_end {y r : List Nat} (hr : RingTo y r) (h : ∀ c m d, y = c :: (m ++ [d]) → c ≠ inv d) : y = r := by
  cases hr with
  | stop _ => rfl
  | step h' hr' => exact absurd h' (h _ _ _ rfl)
theorem ends_eq {y : Str} {c d : Nat} {m : List Nat} (h : y.cps.toList = c :: (m ++ [d])) : (Txt.item y 0 == S (con (Txt.item y (-1)).cps.toList)) = decide (c = inv d) := by
  have h2 : y.cps.toList = (c :: m) ++ [d] := h
  rw [item_first h, item_last h2, S_cps]
  show (S [c] == S [inv d]) = _
  by_cases e : c = inv d
  · subst e; simp
  · rw [decide_eq_false e]
    rw [beq_eq_false_iff_ne]
    intro e2
    exact e (List.cons.inj (S_inj e2)).1
theorem ring_stop1 {y : Str} {r : List Nat} (hr : RingTo y.cps.toList r) (h : ¬ 1 < (y.length : Int)) : y = S r := by
  refine S_eq (ring_end hr fun c m d e => ?_)
  have := congrArg List.length e
  rw [← len_cps] at this
  simp at this
  omega
theorem ring_stop2 {y : Str} {r : List Nat} (hr : RingTo y.cps.toList r) (h : (Txt.item y 0 == S (con (Txt.item y (-1)).cps.toList)) = false) : y = S r := by
  refine S_eq (ring_end hr fun c m d e => ?_)
  rw [ends_eq e] at h
  exact of_decide_eq_false h
theorem ring_on {y : Str} {r : List Nat} (hl : letters y.cps.toList) (h1 : 1 < (y.length : Int)) (hr : RingTo y.cps.toList r) (h : (Txt.item y 0 == S (con (Txt.item y (-1)).cps.toList)) = true) :
    letters (Txt.slice y (some 1) (some (-1))).cps.toList ∧ RingTo (Txt.slice y (some 1) (some (-1))).cps.toList r ∧ (Txt.slice y (some 1) (some (-1))).length < y.length := by
  obtain ⟨c, m, d, e⟩ := two_ends (l := y.cps.toList) (by rw [← len_cps]; omega)
  rw [ends_eq e] at h
  rw [slice_mid e, S_cps, S_length]
  refine ⟨fun z hz => hl z (by rw [e]; simp [hz]), ring_step hr e (of_decide_eq_true h), ?_⟩
  rw [len_cps, e]; simp; omega
theorem frameOne (a : Str) (v1 w1 : Option Value) : (fun y : Str => if y = a then v1 else if y = a then w1 else none) = fun y : Str => if y = a then v1 else none := by
  funext y
  by_cases h1 : y = a
  · simp only [if_pos h1]
  · simp only [if_neg h1]
local macro_rules | `(tactic| walk_at "call ref") => `(tactic| (k_here; (with_reducible show wpAny _ _ (call (Value.ref 47) _) _ _ _); k_dflt (refine' contrary ?B ?F ?X ?N ?T ?K ?o ?n ?d ?u ?_; (case B => k_asm); (case F => k_asm); (case X => k_asm); (case N => k_asm); (case T => k_asm); (case K => first | exact rfl | assumption); (case o => first | assumption | exact item_letters (by assumption) (by assumption)); (case n => first | assumption | omega); (case d => ktr_room); (case u => ktr_units)); intro t' h' tk' F' N'; (try k_fold)))
theorem ring {w : World} {mean : ExcName → Option Value} {mg mb : Str → Option Value} {dp un : Nat} {gd : Option (List Code)} {cn : Str} {cs : Scope} {a : Addr} {ccd : Value} {cl : List (Str × Addr)} {outer : List Env} {A₀ : Around} {base h₀ : Heap} {L : Addr} {m : Str → Option Value} {news : List (Addr × Obj)} {s : Shared} {Q E : Value → Shared → Prop}
    {x : Str} {tx : Tok} {r : List Nat}
    (B : Below A₀ base outer h₀) (F : Fr h₀ L s.heap m) (X : (hd01.heap_39 w.params).In h₀) (N : News h₀ L s.heap news) (T : Top hd01.view_39 (looseW hd01.view_39 []) mean mg mb h₀) (hk : cs.kind = .function)
    (hx : letters x.cps.toList) (hn : x.length ≤ 1000) (hr : RingTo x.cps.toList r) (hd : dp + 5 < recursionLimit) (hu : un + 48 < cLine)
    (hret : ∀ (t : Tok) (h' : Heap) (tk' : Nat), Fr h₀ L h' m → News h₀ L h' news → Q (.str (S r) t) { s with heap := h', toks := tk' }) :
    wpAny (model PySem.Challenge.rw_ph0179_01.row.prog w) (ktrTop dp un gd cn cs L a ccd cl outer) (call (.ref 54) [.str x tx]) Q E s := by
  revert X; k_fill; intro X
  refine wpAny_call ?_
  k_dflt cell_enter
  rename_i g' L' h' FG' F' N' B' X' T'
  refine wpAny_execs_cons ?_
  refine While_inv2 (n₀ := x.length) (fun n m₁ nx => ∃ (y : Str) (t : Tok), n = y.length ∧ m₁ = (fun z : Str => if z = ("word" : Str) then some (Value.str y t) else none) ∧ nx = news ∧ letters y.cps.toList ∧ y.length ≤ 1000 ∧ RingTo y.cps.toList r) F' N' ?hJ ?turn ?hE
  case hJ =>
    refine ⟨x, tx, rfl, ?_, rfl, hx, hn, hr⟩
    funext y
    show List.lookup y [("word", Value.str x tx)] = _
    by_cases h1 : y = ("word" : Str)
    · subst h1; rfl
    · simp [List.lookup, h1, beq_eq_false_iff_ne.mpr h1]
  case hE => passes_own
  rintro n m₁ nx h₁ tk₁ F₁ N₁ ⟨y, ty, hyn, hm, hnx, hyl, hys, hyr⟩
  subst hyn hm hnx
  clear F' N'
  k_steps
  · rename Fr g' L' _ _ => F9
    rename News g' L' _ _ => N9
    have hon := ring_on hyl (by assumption) hyr (by assumption)
    have hle : (Txt.slice y (some 1) (some (-1))).length ≤ y.length := by assumption
    rw [frameOne] at F9
    exact ⟨_, _, _, _, (Txt.slice y (some 1) (some (-1))).length, rfl, F9, N9, hon.2.2, _, _, rfl, rfl, rfl, hon.1, Nat.le_trans hle hys, hon.2.1⟩
  · exact cb_retS (Q := Q) hret (ring_stop2 hyr (by assumption)) (by assumption) (by assumption)
  · exact cb_retS (Q := Q) hret (ring_stop1 hyr (by assumption)) (by assumption) (by assumption)
theorem calm15 : True := by k_with_none; trivial
end
end Mine

namespace Mine
section
open PySem PySem.W PyProof.Rows
set_option maxHeartbeats 4000000
section
variable {w : World} {mean : ExcName → Option Value} {mg mb : Str → Option Value} {dp un : Nat} {gd : Option (List Code)} {cn : Str} {cs : Scope} {a : Addr} {ccd : Value} {cl : List (Str × Addr)} {outer : List Env} {A₀ : Around} {base h₀ : Heap} {L : Addr} {m : Str → Option Value} {news : List (Addr × Obj)} {s : Shared} {Q E : Value → Shared → Prop}
    {x : Str} {l : List Nat} {tx : Tok}
theorem movedS {k : Int} {tk : Tok}
    (B : Below A₀ base outer h₀) (F : Fr h₀ L s.heap m) (X : (hd01.heap_39 w.params).In h₀) (N : News h₀ L s.heap news) (T : Top hd01.view_39 (looseW hd01.view_39 []) mean mg mb h₀) (hk : cs.kind = .function)
    (e : x = S l) (hx : letters l) (hn : l.length ≤ 1000) (hK : isK k) (hd : dp + 3 < recursionLimit) (hu : un + 32 < cLine)
    (hret : ∀ (t : Tok) (h' : Heap) (tk' : Nat), Fr h₀ L h' m → News h₀ L h' news → Q (.str (S (red (phi k l))) t) { s with heap := h', toks := tk' }) :
    wpAny (model PySem.Challenge.rw_ph0179_01.row.prog w) (ktrTop dp un gd cn cs L a ccd cl outer) (call (.ref 42) [.str x tx, .int k tk]) Q E s := by
  subst e
  exact moved B F X N T hk hx (by rw [S_length]; exact hn) hK hd hu hret
theorem contraryS
    (B : Below A₀ base outer h₀) (F : Fr h₀ L s.heap m) (X : (hd01.heap_39 w.params).In h₀) (N : News h₀ L s.heap news) (T : Top hd01.view_39 (looseW hd01.view_39 []) mean mg mb h₀) (hk : cs.kind = .function)
    (e : x = S l) (hx : letters l) (hn : l.length ≤ 1000) (hd : dp + 3 < recursionLimit) (hu : un + 32 < cLine)
    (hret : ∀ (t : Tok) (h' : Heap) (tk' : Nat), Fr h₀ L h' m → News h₀ L h' news → Q (.str (S (con l)) t) { s with heap := h', toks := tk' }) :
    wpAny (model PySem.Challenge.rw_ph0179_01.row.prog w) (ktrTop dp un gd cn cs L a ccd cl outer) (call (.ref 47) [.str x tx]) Q E s := by
  subst e
  exact contrary B F X N T hk hx (by rw [S_length]; exact hn) hd hu hret
theorem struckS
    (B : Below A₀ base outer h₀) (F : Fr h₀ L s.heap m) (X : (hd01.heap_39 w.params).In h₀) (N : News h₀ L s.heap news) (T : Top hd01.view_39 (looseW hd01.view_39 []) mean mg mb h₀) (hk : cs.kind = .function)
    (e : x = S l) (hn : l.length ≤ 4000) (hd : dp + 2 < recursionLimit) (hu : un + 16 < cLine)
    (hret : ∀ (t : Tok) (h' : Heap) (tk' : Nat), Fr h₀ L h' m → News h₀ L h' news → Q (.str (S (red l)) t) { s with heap := h', toks := tk' }) :
    wpAny (model PySem.Challenge.rw_ph0179_01.row.prog w) (ktrTop dp un gd cn cs L a ccd cl outer) (call (.ref 35) [.str x tx]) Q E s := by
  subst e
  exact struck B F X N T hk (by rw [S_length]; omega) hd hu hret
theorem ringS {r : List Nat}
    (B : Below A₀ base outer h₀) (F : Fr h₀ L s.heap m) (X : (hd01.heap_39 w.params).In h₀) (N : News h₀ L s.heap news) (T : Top hd01.view_39 (looseW hd01.view_39 []) mean mg mb h₀) (hk : cs.kind = .function)
    (e : x = S l) (hx : letters l) (hn : l.length ≤ 1000) (hr : RingTo l r) (hd : dp + 5 < recursionLimit) (hu : un + 48 < cLine)
    (hret : ∀ (t : Tok) (h' : Heap) (tk' : Nat), Fr h₀ L h' m → News h₀ L h' news → Q (.str (S r) t) { s with heap := h', toks := tk' }) :
    wpAny (model PySem.Challenge.rw_ph0179_01.row.prog w) (ktrTop dp un gd cn cs L a ccd cl outer) (call (.ref 54) [.str x tx]) Q E s := by
  subst e
  exact ring B F X N T hk hx (by rw [S_length]; exact hn) hr hd hu hret
theorem countsS
    (B : Below A₀ base outer h₀) (F : Fr h₀ L s.heap m) (X : (hd01.heap_39 w.params).In h₀) (N : News h₀ L s.heap news) (T : Top hd01.view_39 (looseW hd01.view_39 []) mean mg mb h₀) (hk : cs.kind = .function)
    (e : x = S l) (hn : l.length ≤ 1000) (hd : dp + 3 < recursionLimit) (hu : un + 32 < cLine)
    (hret : ∀ (D : Addr) (t u : Tok) (h' : Heap) (tk' : Nat), Fr h₀ L h' m → News h₀ L h' ((D, ({ cls := .type "tuple", data := .seq #[.int (da l) t, .int (db l) u] } : Obj)) :: news) → (∀ p ∈ news, p.1 < D) → Q (.ref D) { s with heap := h', toks := tk' }) :
    wpAny (model PySem.Challenge.rw_ph0179_01.row.prog w) (ktrTop dp un gd cn cs L a ccd cl outer) (call (.ref 61) [.str x tx]) Q E s := by
  subst e
  exact counts B F X N T hk (by rw [S_length]; exact hn) hd hu hret
theorem count_bound {l : List Nat} (y : Str) : 0 ≤ Txt.count (S l) y ∧ Txt.count (S l) y ≤ l.length + 1 := by
  unfold Txt.count
  have := StrLaws.occ_length_le (S l) y 0 (S l).length ((S l).length + 1)
  rw [S_length] at this ⊢
  omega
theorem rep_aA (x : Str) : rep x [.ofString "aA", .ofString ""] = Str.join (.ofString "") (Txt.split x (.ofString "aA")) := rfl
theorem rpaA {vs : List Value}
    (B : Below A₀ base outer h₀) (F : Fr h₀ L s.heap m) (X : (hd01.heap_39 w.params).In h₀) (N : News h₀ L s.heap news) (T : Top hd01.view_39 (looseW hd01.view_39 []) mean mg mb h₀) (hk : cs.kind = .function)
    (e : x = S l) (hn : l.length ≤ 4000) (hv : StrsAre vs [.ofString "aA", .ofString ""]) (hd : dp + 1 < recursionLimit) (hu : un + 8 < cLine)
    (hret : ∀ (t : Tok) (h' : Heap) (tk' : Nat) (z : Str), (z.length : Int) = l.length - 2 * Txt.count x (.ofString "aA") → z.length ≤ 4000 → 0 ≤ Txt.count x (.ofString "aA") → Txt.count x (.ofString "aA") ≤ 4001 → Fr h₀ L h' m → News h₀ L h' news → Q (.str z t) { s with heap := h', toks := tk' }) :
    wpAny (model PySem.Challenge.rw_ph0179_01.row.prog w) (ktrTop dp un gd cn cs L a ccd cl outer) (call (.ref 21) (.str x tx :: vs)) Q E s := by
  subst e
  refine rp B F X N T hk hv ⟨by decide +kernel, by rw [S_length]; omega, by decide +kernel, trivial⟩ (by decide) hd hu fun t h' tk' F' N' => ?_
  have hc := count_bound (l := l) (.ofString "aA")
  rw [rep_aA]
  have h1 := rep1_count (S l) (.ofString "aA") (.ofString "") (by decide +kernel) (by decide +kernel)
  have e1 : (Str.ofString "aA").length = 2 := by decide +kernel
  have e2 : (Str.ofString "").length = 0 := by decide +kernel
  have e3 : (S l).length = l.length := S_length l
  rw [e1, e2, e3] at h1
  exact hret t h' tk' _ (by omega) (by omega) hc.1 (by omega) F' N'
end
theorem cnt_bound (c : Nat) : ∀ l : List Nat, 0 ≤ cnt c l ∧ cnt c l ≤ l.length
  | [] => by rw [cnt_nil]; simp
  | d :: t => by
    have := cnt_bound c t
    rw [cnt_cons, List.length_cons]
    split <;> omega
theorem d_bound (l : List Nat) : -(l.length : Int) ≤ da l ∧ da l ≤ l.length ∧ -(l.length : Int) ≤ db l ∧ db l ≤ l.length := by
  have h1 := cnt_bound 97 l
  have h2 := cnt_bound 65 l
  have h3 := cnt_bound 98 l
  have h4 := cnt_bound 66 l
  unfold da db
  omega
abbrev K5 (g : Int → Int) : List Int := List.map (fun k' => (g k').fmod 11) (rangeKs 0 ((5 : Int) - 0).toNat)
theorem K5_isK (g : Int → Int) : ∀ k ∈ K5 g, isK k := fun k hk => by
  obtain ⟨j, _, rfl⟩ := List.mem_map.mp hk
  have h1 := Int.fmod_nonneg_of_pos (g j) (show (0 : Int) < 11 by decide)
  have h2 := Int.fmod_lt_of_pos (g j) (show (0 : Int) < 11 by decide)
  exact ⟨h1, by show (g j).fmod 11 ≤ 10; omega⟩
theorem K5_length (g : Int → Int) : (K5 g).length = 5 := by rw [List.length_map, rangeKs_length]; rfl
theorem wS_room {x : List Nat} (hx : x.length ≤ 4) {pre : List Int} (hp : pre.length ≤ 5) : (wS x pre).length ≤ 128 := by
  have h1 := wS_length x pre
  have h2 : 2 ^ pre.length ≤ 2 ^ 5 := Nat.pow_le_pow_right (by decide) hp
  have h3 : x.length * 2 ^ pre.length ≤ 4 * 2 ^ 5 := Nat.mul_le_mul hx h2
  omega
/-- what a turn may use -/
theorem turn1 {g : Int → Int} {pre post : List Int} {n : Int} (h : K5 g = pre ++ n :: post) {u v c : Str} {side : Int}
    (_hu : u = S (wS [97] pre)) (_hv : v = S (wS [98] pre)) (_hc : c = S (wS [97, 98, 65, 66] pre)) (hs : side = sS 1 pre) :
    isK n ∧ (letters (wS [97] pre) ∧ (wS [97] pre).length ≤ 1000 ∧ letters (wS [98] pre) ∧ (wS [98] pre).length ≤ 1000 ∧ letters (wS [97, 98, 65, 66] pre) ∧ (wS [97, 98, 65, 66] pre).length ≤ 1000) ∧
    (letters (red (phi n (wS [97] pre))) ∧ (red (phi n (wS [97] pre))).length ≤ 128 ∧ letters (red (phi n (wS [98] pre))) ∧ (red (phi n (wS [98] pre))).length ≤ 128 ∧ letters (red (phi n (wS [97, 98, 65, 66] pre))) ∧ (red (phi n (wS [97, 98, 65, 66] pre))).length ≤ 128) ∧
    Sta (red (phi n (wS [97] pre))) (red (phi n (wS [98] pre))) (red (phi n (wS [97, 98, 65, 66] pre))) (sNext n side) ∧ (side = 1 ∨ side = -1) := by
  have hk := K5_isK g
  have hl := K5_length g
  rw [h] at hk hl
  have hl2 : pre.length ≤ 4 := by simp at hl; omega
  have hkp : ∀ k ∈ pre, isK k := fun k hk' => hk k (List.mem_append_left _ hk')
  have hkn : isK n := hk n (by simp)
  have h0 := sta_all pre sta0 hkp
  have h1 := sta_step h0 hkn
  have hl3 : (pre ++ [n]).length ≤ 5 := by simp; omega
  have r1 := wS_room (x := [97]) (by decide) (pre := pre) (by omega)
  have r2 := wS_room (x := [98]) (by decide) (pre := pre) (by omega)
  have r3 := wS_room (x := [97, 98, 65, 66]) (by decide) (pre := pre) (by omega)
  have q1 := wS_room (x := [97]) (by decide) hl3
  have q2 := wS_room (x := [98]) (by decide) hl3
  have q3 := wS_room (x := [97, 98, 65, 66]) (by decide) hl3
  rw [wS_snoc] at q1 q2 q3
  rw [hs]
  exact ⟨hkn, ⟨h0.lu, by omega, h0.lv, by omega, h0.lc, by omega⟩, ⟨h1.lu, q1, h1.lv, q2, h1.lc, q3⟩, h1, h0.side⟩
theorem calm16 : True := by k_with_none; trivial
end
end Mine

namespace Mine
section
open PySem PySem.W PyProof.Rows
set_option maxHeartbeats 4000000
theorem gen5 {G : Prop} {ys : List Value} {g : Int → Int} (h : IntsAre ys (K5 g)) (k : ∀ Ks : List Int, IntsAre ys Ks → (∀ k ∈ Ks, isK k) → Ks.length = 5 → ys.length = 5 → G) : G :=
  k (K5 g) h (K5_isK g) (K5_length g) (h.length ▸ K5_length g)
abbrev listOfAll {l : List Int} (_ : ∀ k ∈ l, isK k) : List Int := l
def bS (x : List Nat) (pre : List Int) : List Nat := pre.foldl (fun w k => red (phi (undo k) w)) x
theorem bS_snoc (x : List Nat) (pre : List Int) (k : Int) : bS x (pre ++ [k]) = red (phi (undo k) (bS x pre)) := by unfold bS; rw [List.foldl_append]; rfl
/-- back along the way: what is left to go -/
theorem bS_wS2 {x y z : List Nat} {t : Int} (h0 : Sta x y z t) : ∀ (B A : List Int), (∀ k ∈ A ++ B, isK k) → bS (wS x (A ++ B)) B.reverse = wS x A ∧ bS (wS y (A ++ B)) B.reverse = wS y A
  | [], A, _ => by rw [List.append_nil]; exact ⟨rfl, rfl⟩
  | n :: B, A, hK => by
    have e : A ++ n :: B = (A ++ [n]) ++ B := by simp
    rw [e] at hK ⊢
    obtain ⟨i1, i2⟩ := bS_wS2 h0 B (A ++ [n]) hK
    have hn : isK n := hK n (by simp)
    have hA : ∀ k ∈ A, isK k := fun k hk => hK k (by simp [hk])
    have hs := sta_all A h0 hA
    rw [List.reverse_cons, bS_snoc, bS_snoc, i1, i2, wS_snoc, wS_snoc]
    exact ⟨undo_moved hn hs.lu hs.ru, undo_moved hn hs.lv hs.rv⟩
theorem bS_wS {x y z : List Nat} {t : Int} (h0 : Sta x y z t) (K : List Int) (hK : ∀ k ∈ K, isK k) (pre post : List Int) (h : K.reverse = pre ++ post) : bS (wS x K) pre = wS x post.reverse ∧ bS (wS y K) pre = wS y post.reverse := by
  have e : K = post.reverse ++ pre.reverse := by rw [← List.reverse_append, ← h, List.reverse_reverse]
  rw [e] at hK
  have := bS_wS2 h0 pre.reverse post.reverse hK
  rw [← e, List.reverse_reverse] at this
  exact this
theorem turn2 {G : Prop} {Ks pre post : List Int} {n : Int} (hK : ∀ k ∈ Ks, isK k) (hl : Ks.length = 5) (h : Ks.reverse = pre ++ n :: post)
    (k : isK n → letters (bS (wS [97] Ks) pre) → (bS (wS [97] Ks) pre).length ≤ 1000 → letters (bS (wS [98] Ks) pre) → (bS (wS [98] Ks) pre).length ≤ 1000 → G) : G := by
  obtain ⟨e1, e2⟩ := bS_wS sta0 Ks hK pre (n :: post) h
  have hK2 : Ks = (pre ++ n :: post).reverse := by rw [← h, List.reverse_reverse]
  have hn : isK n := hK n (by rw [hK2]; simp)
  have hpost : ∀ k ∈ (n :: post).reverse, isK k := fun k hk => hK k (by rw [hK2, List.reverse_append]; exact List.mem_append_left _ hk)
  have hs := sta_all (n :: post).reverse sta0 hpost
  have hl2 : (n :: post).reverse.length ≤ 5 := by rw [List.length_reverse, ← hl, hK2, List.length_reverse, List.length_append]; omega
  have r1 := wS_room (x := [97]) (by decide) hl2
  have r2 := wS_room (x := [98]) (by decide) hl2
  refine k hn ?_ ?_ ?_ ?_
  · rw [e1]; exact hs.lu
  · rw [e1]; omega
  · rw [e2]; exact hs.lv
  · rw [e2]; omega
theorem end2 {Ks : List Int} (hK : ∀ k ∈ Ks, isK k) : bS (wS [97] Ks) Ks.reverse = [97] ∧ bS (wS [98] Ks) Ks.reverse = [98] :=
  bS_wS sta0 Ks hK Ks.reverse [] (by simp)
theorem undo_hi {k : Int} (h : 7 < k) : undo k = k := by unfold undo; rw [if_pos h]
theorem undo_lo {k : Int} (h : ¬ 7 < k) : undo k = k + 1 - 2 * k.fmod 2 := by
  unfold undo; rw [if_neg h, Int.fmod_eq_emod_of_nonneg _ (by decide)]
theorem isK_lo {k : Int} (hk : isK k) (h : ¬ 7 < k) : isK (k + 1 - 2 * k.fmod 2) := undo_lo h ▸ isK_undo hk
theorem stU1 {Ks pre : List Int} {n : Int} (h : 7 < n) : S (red (phi n (bS (wS [97] Ks) pre))) = S (bS (wS [97] Ks) (pre ++ [n])) ∧ S (red (phi n (bS (wS [98] Ks) pre))) = S (bS (wS [98] Ks) (pre ++ [n])) := by
  rw [bS_snoc, bS_snoc, undo_hi h]; exact ⟨rfl, rfl⟩
theorem stU2 {Ks pre : List Int} {n : Int} (h : ¬ 7 < n) : S (red (phi (n + 1 - 2 * n.fmod 2) (bS (wS [97] Ks) pre))) = S (bS (wS [97] Ks) (pre ++ [n])) ∧ S (red (phi (n + 1 - 2 * n.fmod 2) (bS (wS [98] Ks) pre))) = S (bS (wS [98] Ks) (pre ++ [n])) := by
  rw [bS_snoc, bS_snoc, undo_lo h]; exact ⟨rfl, rfl⟩
/-- what a turn of the first loop may use -/
theorem turn1K {G : Prop} {Ks pre post : List Int} {n : Int} {side : Int} (hk : ∀ k ∈ Ks, isK k) (hl : Ks.length = 5) (h : Ks = pre ++ n :: post) (hs : side = sS 1 pre)
    (k : isK n ∧ (letters (wS [97] pre) ∧ (wS [97] pre).length ≤ 1000 ∧ letters (wS [98] pre) ∧ (wS [98] pre).length ≤ 1000 ∧ letters (wS [97, 98, 65, 66] pre) ∧ (wS [97, 98, 65, 66] pre).length ≤ 1000) ∧
    (letters (red (phi n (wS [97] pre))) ∧ (red (phi n (wS [97] pre))).length ≤ 128 ∧ letters (red (phi n (wS [98] pre))) ∧ (red (phi n (wS [98] pre))).length ≤ 128 ∧ letters (red (phi n (wS [97, 98, 65, 66] pre))) ∧ (red (phi n (wS [97, 98, 65, 66] pre))).length ≤ 128) ∧
    Sta (red (phi n (wS [97] pre))) (red (phi n (wS [98] pre))) (red (phi n (wS [97, 98, 65, 66] pre))) (sNext n side) ∧ (side = 1 ∨ side = -1) → G) : G := by
  refine k ?_
  rw [h] at hk hl
  have hl2 : pre.length ≤ 4 := by simp at hl; omega
  have hkp : ∀ k ∈ pre, isK k := fun k hk' => hk k (List.mem_append_left _ hk')
  have hkn : isK n := hk n (by simp)
  have h0 := sta_all pre sta0 hkp
  have h1 := sta_step h0 hkn
  have hl3 : (pre ++ [n]).length ≤ 5 := by simp; omega
  have r1 := wS_room (x := [97]) (by decide) (pre := pre) (by omega)
  have r2 := wS_room (x := [98]) (by decide) (pre := pre) (by omega)
  have r3 := wS_room (x := [97, 98, 65, 66]) (by decide) (pre := pre) (by omega)
  have q1 := wS_room (x := [97]) (by decide) hl3
  have q2 := wS_room (x := [98]) (by decide) hl3
  have q3 := wS_room (x := [97, 98, 65, 66]) (by decide) hl3
  rw [wS_snoc] at q1 q2 q3
  rw [hs]
  exact ⟨hkn, ⟨h0.lu, by omega, h0.lv, by omega, h0.lc, by omega⟩, ⟨h1.lu, q1, h1.lv, q2, h1.lc, q3⟩, h1, h0.side⟩
theorem rots_in2 {s : Int} {r : List Nat} (h : r ∈ rots s) : (s = 1 → (PySem.Builtin.Str.occurrences (Str.ofString "abABabA") (S r) 0 (Str.ofString "abABabA").length 1).isEmpty = false) ∧ (s ≠ 1 → (PySem.Builtin.Str.occurrences (Str.ofString "baBAbaB") (S r) 0 (Str.ofString "baBAbaB").length 1).isEmpty = false) := by
  unfold rots at h
  split at h
  · rename_i hs
    refine ⟨fun _ => ?_, fun h2 => absurd hs h2⟩
    simp only [List.mem_cons, List.not_mem_nil, or_false] at h
    rcases h with rfl | rfl | rfl | rfl <;> decide +kernel
  · rename_i hs
    refine ⟨fun h2 => absurd h2 hs, fun _ => ?_⟩
    simp only [List.mem_cons, List.not_mem_nil, or_false] at h
    rcases h with rfl | rfl | rfl | rfl <;> decide +kernel
theorem sNext_is (n side : Int) : (7 < n → sNext n side = -side) ∧ (¬ 7 < n → sNext n side = side) := by
  unfold sNext
  exact ⟨fun h => if_pos h, fun h => if_neg h⟩
theorem rots_len {s : Int} {r : List Nat} (h : r ∈ rots s) : r.length = 4 := by
  unfold rots at h
  split at h
  all_goals (simp only [List.mem_cons, List.not_mem_nil, or_false] at h; rcases h with rfl | rfl | rfl | rfl <;> rfl)
theorem ring_no {P : Prop} {b : Bool} (h : b = false) (h' : b = true) : P := by rw [h] at h'; exact absurd h' (by decide)
theorem rots_in3 {n side : Int} {r : List Nat} (h : r ∈ rots (sNext n side)) : ∀ r' : Int, (7 < n ∧ r' = -side ∨ ¬ 7 < n ∧ r' = side) → (r' = 1 → (PySem.Builtin.Str.occurrences (Str.ofString "abABabA") (S r) 0 (Str.ofString "abABabA").length 1).isEmpty = false) ∧ (r' ≠ 1 → (PySem.Builtin.Str.occurrences (Str.ofString "baBAbaB") (S r) 0 (Str.ofString "baBAbaB").length 1).isEmpty = false) := by
  intro r' h'
  have e : sNext n side = r' := by
    rcases h' with ⟨h1, h2⟩ | ⟨h1, h2⟩
    · rw [(sNext_is n side).1 h1, h2]
    · rw [(sNext_is n side).2 h1, h2]
  rw [e] at h
  exact rots_in2 h
theorem calm17 : True := by k_with_none; trivial
end
end Mine

namespace Mine
section
open PySem PySem.W PyProof.Rows
set_option maxHeartbeats 12000000
local macro_rules | `(tactic| walk_at "idle") => `(tactic| skip)
local macro_rules | `(tactic| walk_at "idle") => `(tactic| skip)
local macro_rules | `(tactic| walk_at "idle") => `(tactic| skip)
local macro_rules | `(tactic| walk_at "idle") => `(tactic| skip)
local macro_rules | `(tactic| walk_at "idle") => `(tactic| skip)
local macro_rules | `(tactic| walk_at "idle") => `(tactic| skip)
local macro_rules | `(tactic| walk_at "idle") => `(tactic| skip)
local macro_rules | `(tactic| walk_at "idle") => `(tactic| skip)
local macro_rules | `(tactic| walk_at "idle") => `(tactic| skip)
local macro_rules | `(tactic| walk_at "idle") => `(tactic| skip)
local macro_rules | `(tactic| walk_at "idle") => `(tactic| skip)
local macro_rules | `(tactic| walk_at "idle") => `(tactic| skip)
local macro_rules | `(tactic| walk_at "idle") => `(tactic| skip)
theorem con_length (l : List Nat) : (con l).length = l.length := by unfold con; rw [List.length_reverse, List.length_map]
theorem S4 (a b c d : List Nat) : S a ++ S b ++ S c ++ S d = S (a ++ b ++ c ++ d) := by rw [S_append, S_append, S_append]
theorem stride {prog : Program} {w : World} {A : Around} {E : Value → Shared → Prop} {s : Shared} {h₀ : Heap} {L l : Addr} {m : Str → Option Value} {news : List (Addr × Obj)} {value slice : PySem.Expr} {vs : List Value} {ns : List Int} {vl vu vk : Value} {lo hi st : Option Int} {ops : List Value} {Q : Value → Shared → Prop}
    (F : Fr h₀ L s.heap m) (N : News h₀ L s.heap news) (hl : s.heap.IsList l vs.toArray) (hi' : IntsAre vs ns) (pl : IsPart vl lo) (pu : IsPart vu hi) (pk : IsPart vk st) (h0 : st ≠ some 0)
    (h : ∀ D ws h', IntsAre ws (pickNums ns lo hi st) → Fr h₀ L h' m → News h₀ L h' ((D, listOf ws.toArray 0) :: news) → (∀ p ∈ news, p.1 < D) → Q (.ref D) { s with heap := h' })
    (hs : subscripted slice false (.ref l) (.ref s.heap.objs.size) = operate ops (getItem (.ref l) (.ref s.heap.objs.size)))
    (ht : ∀ r, letTemporaryGo value (.ref l) r = pure ()) (hsz : vs.toArray.size ≤ sizeLine) :
    wpAny (model prog w) A (subscriptTail value slice (.ref l) (.ref s.heap.objs.size)) Q E { s with heap := s.heap.push { cls := .type "slice", data := .fields #[vl, vu, vk] } } := by
  refine slice_list3 F N hl pl pu pk h0 (fun h' F' N' => h _ (slicePick vs.toArray lo hi st).toList h' ?_ F' ?_ fun p hp => Nat.lt_succ_of_lt (Heap.lt_size (N p hp).1)) hs ht hsz
  · exact IntsAre.pick hi' _ _ _
  · rw [Array.toArray_toList]; exact N'
local macro_rules | `(tactic| walk_at "subscriptTail Name Slice ref ref") => `(tactic| (k_here; (with_reducible show wpAny _ _ (subscriptTail _ (PySem.Expr.Slice (some _) none (some _) _) (Value.ref _) (Value.ref _)) _ _ _); k_dflt (refine' stride ?F ?N ?l ?i ?p ?q ?k ?o ?_ ?s ?t ?z; (case F => k_asm); (case N => k_asm); (case l => kmk_list); (case i => l_ints); (case p => kmk_part); (case q => kmk_part); (case k => kmk_part); (case o => decide); (case s => with_unfolding_all rfl); (case t => kmk_pure); (case z => kmk_size)); intro D' ws' h' hI' F' N' l1; (try k_lt l1); (try k_sweep)))
local macro_rules | `(tactic| walk_at "call ref") => `(tactic| (k_here; (with_reducible show wpAny _ _ (call (Value.ref 42) _) _ _ _); k_dflt (refine' movedS ?B ?F ?X ?N ?T ?K ?e ?o ?n ?q ?d ?u ?_; (case B => k_asm); (case F => k_asm); (case X => k_asm); (case N => k_asm); (case T => k_asm); (case K => first | exact rfl | assumption); (case e => first | assumption | exact rfl); (case o => assumption); (case n => first | assumption | omega); (case q => first | assumption | (refine' isK_lo ?zqA ?zqB; (case zqA => assumption); (case zqB => assumption))); (case d => ktr_room); (case u => ktr_units)); intro t' h' tk' F' N'; (try k_fold)))
local macro_rules | `(tactic| walk_at "call ref") => `(tactic| (k_here; (with_reducible show wpAny _ _ (call (Value.ref 47) _) _ _ _); k_dflt (refine' contraryS ?B ?F ?X ?N ?T ?K ?e ?o ?n ?d ?u ?_; (case B => k_asm); (case F => k_asm); (case X => k_asm); (case N => k_asm); (case T => k_asm); (case K => first | exact rfl | assumption); (case e => first | assumption | exact rfl); (case o => assumption); (case n => first | assumption | omega); (case d => ktr_room); (case u => ktr_units)); intro t' h' tk' F' N'; (try k_fold)))
local macro_rules | `(tactic| walk_at "call ref") => `(tactic| (k_here; (with_reducible show wpAny _ _ (call (Value.ref 35) _) _ _ _); k_dflt (refine' struckS ?B ?F ?X ?N ?T ?K ?e ?n ?d ?u ?_; (case B => k_asm); (case F => k_asm); (case X => k_asm); (case N => k_asm); (case T => k_asm); (case K => first | exact rfl | assumption); (case e => first | assumption | exact S4 _ _ _ _ | exact rfl); (case n => ((try simp only [List.length_append, con_length]); omega)); (case d => ktr_room); (case u => ktr_units)); intro t' h' tk' F' N'; (try k_fold)))
local macro_rules | `(tactic| walk_at "call ref") => `(tactic| (k_here; (with_reducible show wpAny _ _ (call (Value.ref 54) _) _ _ _); k_dflt (refine' ringS ?B ?F ?X ?N ?T ?K ?e ?o ?n ?r ?d ?u ?_; (case B => k_asm); (case F => k_asm); (case X => k_asm); (case N => k_asm); (case T => k_asm); (case K => first | exact rfl | assumption); (case e => first | assumption | exact rfl); (case o => assumption); (case n => first | assumption | omega); (case r => assumption); (case d => ktr_room); (case u => ktr_units)); intro t' h' tk' F' N'; (try k_fold)))
local macro_rules | `(tactic| walk_at "call ref") => `(tactic| (k_here; (with_reducible show wpAny _ _ (call (Value.ref 61) _) _ _ _); k_dflt (refine' countsS ?B ?F ?X ?N ?T ?K ?e ?n ?d ?u ?_; (case B => k_asm); (case F => k_asm); (case X => k_asm); (case N => k_asm); (case T => k_asm); (case K => first | exact rfl | assumption); (case e => first | assumption | exact rfl); (case n => first | assumption | omega); (case d => ktr_room); (case u => ktr_units)); intro D' t' u' h' tk' F' N' l1; (try k_lt l1); (try k_fold)))
local macro_rules | `(tactic| walk_at "call ref") => `(tactic| (k_here; (with_reducible show wpAny _ _ (call (Value.ref 21) _) _ _ _); k_dflt (refine' rpaA ?B ?F ?X ?N ?T ?K ?e ?n ?v ?d ?u ?_; (case B => k_asm); (case F => k_asm); (case X => k_asm); (case N => k_asm); (case T => k_asm); (case K => first | exact rfl | assumption); (case e => first | assumption | exact S4 _ _ _ _ | exact rfl); (case n => ((try simp only [List.length_append, con_length]); omega)); (case v => repeat' (first | exact StrsAre.nil | refine' StrsAre.cons _ _ ?_)); (case d => ktr_room); (case u => ktr_units)); intro t' h' tk' z' hz' hz2' hz3' hz4' F' N'; (try k_fold)))
theorem addS {prog : Program} {w : World} {A : Around} {E : Value → Shared → Prop} {s : Shared} {Q : Value → Shared → Prop} {a b : List Nat} {t u : Tok} (hl : a.length + b.length ≤ 4000) (h : ∀ t' tk, Q (.str (S (a ++ b)) t') { s with toks := tk }) :
    wpAny (model prog w) A (binaryOp .Add (.str (S a) t) (.str (S b) u)) Q E s :=
  add_str (fun t' tk => by rw [S_append]; exact h t' tk) (by rw [S_length, S_length]; exact Nat.le_trans hl (by decide))
local macro_rules | `(tactic| walk_at "binaryOp Add str str") => `(tactic| (k_here; (refine' addS ?zl ?_; (case zl => ((try simp only [List.length_append, con_length]); omega))); intro _ _))
theorem lenS {prog : Program} {w : World} {A : Around} {E : Value → Shared → Prop} {s : Shared} {Q : Value → Shared → Prop} {a : List Nat} {t : Tok} (hl : a.length ≤ 4000) (h : Q (.int (a.length : Int) (s.toks + 1)) { s with toks := s.toks + 1 + 1 }) :
    wpAny (model prog w) A (call (.builtin "len") [.str (S a) t]) Q E s :=
  len_str (by rw [S_length]; omega) (by rw [S_length]; exact h)
local macro_rules | `(tactic| walk_at "call builtin:len") => `(tactic| (k_here; (with_reducible show wpAny _ _ (call (Value.builtin "len") [Value.str (Str.mk _) _]) _ _ _); (refine' lenS ?zl ?_; (case zl => ((try simp only [List.length_append, con_length]); omega)))))
local macro_rules | `(tactic| walk_at "exec If") => `(tactic| (k_here; (with_reducible show wpAny _ _ (exec (Stmt.If _ [Stmt.Assign [Expr.Name _ _] (Expr.UnaryOp _ _ _) _] [] _) _) _ _ _); kj_step))
theorem stC {pre : List Int} {n side r : Int} (hs : side = sS 1 pre) (h : r = sNext n side) : S (red (phi n (wS [97] pre))) = S (wS [97] (pre ++ [n])) ∧ S (red (phi n (wS [98] pre))) = S (wS [98] (pre ++ [n])) ∧ S (red (phi n (wS [97, 98, 65, 66] pre))) = S (wS [97, 98, 65, 66] (pre ++ [n])) ∧ r = sS 1 (pre ++ [n]) := by
  rw [wS_snoc, wS_snoc, wS_snoc, sS_snoc, h, hs]
  exact ⟨rfl, rfl, rfl, rfl⟩
theorem stD {pre : List Int} {n side r : Int} (hs : side = sS 1 pre) (h1 : 7 < n → r = -side) (h2 : ¬ 7 < n → r = side) : S (red (phi n (wS [97] pre))) = S (wS [97] (pre ++ [n])) ∧ S (red (phi n (wS [98] pre))) = S (wS [98] (pre ++ [n])) ∧ S (red (phi n (wS [97, 98, 65, 66] pre))) = S (wS [97, 98, 65, 66] (pre ++ [n])) ∧ r = sS 1 (pre ++ [n]) := by
  refine stC hs ?_
  unfold sNext
  split
  · rename_i h; exact h1 h
  · rename_i h; exact h2 h
theorem sA : S [97] = .ofString "a" := by decide +kernel
theorem sB : S [98] = .ofString "b" := by decide +kernel
theorem law01 : PySem.Challenge.rw_ph0179_01.Holds := hd01 (by
  k_go0
  (all_goals try k_fold)
  (k_with "pyIter ref" => (first
    | ((with_reducible show wpAny _ _ (pyIter (Value.ref _)) (fun it s₂ => LoopAtV _ _ _ _ _ _ _ _ _ it s₂) _ _); (with_reducible rename _ = S (wS [98] _) => hv9); (with_reducible rename _ = S (wS [97] _) => hu9); (with_reducible rename ∀ k ∈ _, isK k => hKi9); (with_reducible rename List.length (_ : List Int) = 5 => hKl9);
       (k_state (fun pre (u v : Str) => u = S (bS (wS [97] (listOfAll hKi9)) pre) ∧ v = S (bS (wS [98] (listOfAll hKi9)) pre)) "u" "v");
       (all_goals (try ((with_reducible rename List.reverse _ = _ ++ _ :: _ => hEq9); (refine' turn2 hKi9 hKl9 hEq9 ?_); intro f1 f2 f3 f4 f5)));
       (all_goals (try ((with_reducible rename _ = S (bS (wS [97] _) (List.reverse _)) => hu8); (with_reducible rename _ = S (bS (wS [98] _) (List.reverse _)) => hv8); (rw [(end2 hKi9).1, sA] at hu8); (rw [(end2 hKi9).2, sB] at hv8); subst hu8; subst hv8))))
    | ((rename IntsAre _ (List.map _ _) => hI8z); (refine' gen5 hI8z ?_); (clear hI8z); (repeat (rename List.length _ = List.length (List.map _ _) => hL8z; clear hL8z)); (intro Ks9 hI9 hKi9 hKl9 hYl9);
       (k_state (fun pre (u v c : Str) (side : Int) => u = S (wS [97] pre) ∧ v = S (wS [98] pre) ∧ c = S (wS [97, 98, 65, 66] pre) ∧ side = sS 1 pre) "u" "v" "c" "side");
       (refine' turn1K hKi9 hKl9 ?zH ?zS ?_); (case zH => with_reducible assumption); (case zS => with_reducible assumption); (rintro ⟨hkn, ⟨f1, f2, f3, f4, f5, f6⟩, ⟨f7, f8, f9, f10, f11, f12⟩, hSta, hside⟩); (try (with_reducible rename Ground _ _ _ _ _ _ _ _ _ => z1; clear z1)); (try (with_reducible rename LooseAre _ _ _ => z1; clear z1)); (try (with_reducible rename Tables _ _ _ _ => z1; clear z1)); (try (with_reducible rename TopE _ _ _ _ => z1; clear z1)); (try (with_reducible rename TopW _ _ _ => z1; clear z1)); (try (with_reducible rename Reads _ _ _ _ => z1; clear z1)); (try (with_reducible rename Well _ _ _ _ => z1; clear z1)); (try (with_reducible rename ReadsAll _ _ _ _ => z1; clear z1)); (try (with_reducible rename Glob _ _ _ _ _ _ _ => z1; clear z1)); (try (with_reducible rename Flt.MathXP _ _ _ => z1; clear z1)); (try (with_reducible rename ReadsAllW _ _ _ _ _ _ => z1; clear z1)); (try (with_reducible rename Dflts _ _ _ => z1; clear z1)); (try (with_reducible rename Heap.CodeRec _ _ _ => z2; clear z2)); (try (with_reducible rename CellsAre _ _ _ => z3; clear z3)); (obtain ⟨r9, hr9, hring⟩ := sta_ring hSta); (have hr4 := rots_len hr9); (have hRin := rots_in3 hr9); (have hdet := hSta.det); (have hsn := hSta.side); (have hcomm := hSta.comm); (have hSN := sNext_is kN (sS 1 kPre)); (have hb1 := d_bound (red (phi kN (wS [97] kPre)))); (have hb2 := d_bound (red (phi kN (wS [98] kPre)))))
    | fail "loops"))
  (k_with "state" => (first | exact stD (by assumption) (by omega) (by omega) | exact stU1 (by assumption) | exact stU2 (by assumption) | (refine' ⟨?_, ?_⟩ <;> assumption) | (refine' ⟨?_, ?_, ?_, ?_⟩ <;> first | rfl | decide +kernel) | fail "state word"))
  k_steps
  all_goals (first
    | (refine' ring_no ((hRin _ ?zh).1 ?ze) ?zn; (case zh => assumption); (case ze => assumption); (case zn => assumption))
    | (refine' ring_no ((hRin _ ?zh).2 ?ze) ?zn; (case zh => assumption); (case ze => assumption); (case zn => assumption))
    | exact Str.empty | exact (0 : Nat) | exact Value.none))
theorem calm18 : True := by k_with_none; trivial
end
end Mine

theorem PySem.Challenge.cw_ph0179_01_holds : PySem.Challenge.rw_ph0179_01.Holds :=
  Mine.law01
