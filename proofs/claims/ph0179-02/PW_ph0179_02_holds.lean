import PyProof.Rows.All
import Wide.All
import OpenK.AllK
import Wide.FinOn
import PyProof.EnumMake
import Lean
import PySem.Challenge.RW_ph0179_02
open PySem PySem.W PyProof.Rows
set_option Elab.async false
set_option maxRecDepth 100000

namespace Mine
section
open PySem PySem.W PyProof.Rows
set_option maxHeartbeats 8000000
open_top hd02 for PySem.Challenge.rw_ph0179_02
theorem calm1 : True := by k_with_none; w_top off; trivial
end
end Mine

namespace Mine
section
open PySem PySem.W PyProof.Rows
def rgo (p q : List Nat) : Nat → List Nat → List Nat
  | _, [] => []
  | k + 1, _ :: t => rgo p q k t
  | 0, c :: t => if p.isPrefixOf (c :: t) then q ++ rgo p q (p.length - 1) t else c :: rgo p q 0 t
abbrev repL (p q x : List Nat) : List Nat := rgo p q 0 x
theorem rgo_skip (p q : List Nat) : ∀ (k : Nat) (l : List Nat), rgo p q k l = rgo p q 0 (l.drop k)
  | 0, l => by rw [List.drop_zero]
  | k + 1, [] => by simp [rgo]
  | k + 1, c :: t => by rw [rgo, rgo_skip p q k t, List.drop_succ_cons]
theorem rgo_hit {p l : List Nat} (q : List Nat) (hp : p ≠ []) (h : p <+: l) : rgo p q 0 l = q ++ rgo p q 0 (l.drop p.length) := by
  cases l with
  | nil => exact absurd (List.prefix_nil.mp h) hp
  | cons c t =>
    rw [rgo, if_pos (List.isPrefixOf_iff_prefix.mpr h), rgo_skip]
    have hl : 1 ≤ p.length := by
      cases p with
      | nil => exact absurd rfl hp
      | cons _ _ => simp
    have e : p.length = (p.length - 1) + 1 := by omega
    conv => rhs; rw [e, List.drop_succ_cons]
theorem rgo_miss {p : List Nat} (q : List Nat) {c : Nat} {t : List Nat} (h : ¬ p <+: c :: t) : rgo p q 0 (c :: t) = c :: rgo p q 0 t := by
  rw [rgo, if_neg (fun e => h (List.isPrefixOf_iff_prefix.mp e))]
theorem rgo_none {p : List Nat} (q : List Nat) : ∀ (l : List Nat), (∀ k, k < l.length → ¬ p <+: l.drop k) → rgo p q 0 l = l
  | [], _ => rfl
  | c :: t, h => by
    rw [rgo_miss q (h 0 (by simp)), rgo_none q t (fun k hk => by have := h (k + 1) (by simp only [List.length_cons]; omega); rwa [List.drop_succ_cons] at this)]
theorem rgo_first {p : List Nat} (q : List Nat) (hp : p ≠ []) : ∀ (n : Nat) (l : List Nat), (∀ k, k < n → ¬ p <+: l.drop k) → p <+: l.drop n → rgo p q 0 l = l.take n ++ q ++ rgo p q 0 (l.drop (n + p.length))
  | 0, l, _, h => by
    rw [List.drop_zero] at h
    rw [rgo_hit q hp h, List.take_zero, List.nil_append, Nat.zero_add]
  | n + 1, [], _, h => by
    rw [List.drop_nil] at h
    exact absurd (List.prefix_nil.mp h) hp
  | n + 1, c :: t, hn, h => by
    rw [List.drop_succ_cons] at h
    rw [rgo_miss q (by have := hn 0 (by omega); rwa [List.drop_zero] at this), rgo_first q hp n t (fun k hk => by have := hn (k + 1) (by omega); rwa [List.drop_succ_cons] at this) h]
    have e : n + 1 + p.length = (n + p.length) + 1 := by omega
    rw [e, List.drop_succ_cons, List.take_succ_cons]
    simp
theorem at_iff (x p : Str) (hp : p.cps.toList ≠ []) (k : Nat) : StrLaws.At x p x.length k ↔ p.cps.toList <+: x.cps.toList.drop k := by
  unfold StrLaws.At
  rw [StrLaws.subAt_eq, beq_iff_eq]
  have e : p.length = p.cps.toList.length := by simp [Str.length]
  have ex : x.length = x.cps.toList.length := by simp [Str.length]
  rw [e, ex]
  constructor
  · intro h
    rw [List.prefix_iff_eq_take]
    exact h.2.symm
  · intro h
    have h1 := h.length_le
    rw [List.length_drop] at h1
    have h2 : 0 < p.cps.toList.length := List.length_pos_iff.mpr hp
    exact ⟨by omega, (List.prefix_iff_eq_take.mp h).symm⟩
theorem join_parts_rgo (x p q : Str) (hp : p.cps.toList ≠ []) : ∀ (cuts : List Nat) (a f : Nat), a ≤ x.length → StrLaws.ChainG x p x.length a cuts f → (∀ k, f ≤ k → ¬ StrLaws.At x p x.length k) →
    (Str.join q (StrLaws.partsFrom x p.length a cuts)).cps.toList = rgo p.cps.toList q.cps.toList 0 (x.cps.toList.drop a)
  | [], a, f, ha, h, hn => by
    have e : f = a := h
    subst e
    show (Builtin.Str.strSub x f x.length).cps.toList = _
    rw [StrLaws.strSub_toList, rgo_none]
    · exact List.take_of_length_le (by rw [List.length_drop]; simp [Str.length])
    · intro k _ hk
      rw [List.drop_drop] at hk
      exact hn (f + k) (by omega) ((at_iff x p hp _).mpr hk)
  | c :: r, a, f, ha, h, hn => by
    obtain ⟨b, l, e⟩ := StrLaws.partsFrom_ne x p.length (c + p.length) r
    have ih := join_parts_rgo x p q hp r (c + p.length) f h.2.1.1 h.2.2.2 hn
    show (Str.join q (Builtin.Str.strSub x a c :: StrLaws.partsFrom x p.length (c + p.length) r)).cps.toList = _
    rw [e] at ih ⊢
    show (Builtin.Str.strSub x a c ++ q ++ Str.join q (b :: l)).cps.toList = _
    rw [Str.cps_append, Str.cps_append, Array.toList_append, Array.toList_append, ih, StrLaws.strSub_toList]
    have hac := h.1
    rw [rgo_first q.cps.toList hp (c - a) (x.cps.toList.drop a)]
    · rw [List.drop_drop]
      have e2 : a + (c - a + p.cps.toList.length) = c + p.length := by
        have : p.length = p.cps.toList.length := by simp [Str.length]
        omega
      rw [e2]
    · intro k hk hpre
      rw [List.drop_drop] at hpre
      exact h.2.2.1 (a + k) (by omega) (by omega) ((at_iff x p hp _).mpr hpre)
    · rw [List.drop_drop]
      have e3 : a + (c - a) = c := by omega
      rw [e3]
      exact (at_iff x p hp _).mp h.2.1
theorem kind_pos (x : Str) : 1 ≤ Builtin.Str.strKind x := by
  unfold Builtin.Str.strKind
  split
  · omega
  · split <;> omega
theorem split_cuts (x p : Str) (hk : Builtin.Str.strKind p = 1) (hp : p.cps.toList ≠ []) : ∃ (cuts : List Nat) (f : Nat), Txt.split x p = StrLaws.partsFrom x p.length 0 cuts ∧ StrLaws.ChainG x p x.length 0 cuts f ∧ (∀ k, f ≤ k → ¬ StrLaws.At x p x.length k) ∧ cuts = Builtin.Str.occurrences x p 0 x.length (x.length + 1) := by
  have hl : 1 ≤ p.length := by
    have : p.length = p.cps.toList.length := by simp [Str.length]
    have := List.length_pos_iff.mpr hp
    omega
  obtain ⟨f, hG, hn⟩ := StrLaws.occ_tight x p hl
  refine ⟨_, f, ?_, hG, hn, rfl⟩
  have nil_of : Builtin.Str.occurrences x p 0 x.length (x.length + 1) = [] → StrLaws.partsFrom x p.length 0 (Builtin.Str.occurrences x p 0 x.length (x.length + 1)) = [x] := fun e0 => by
    rw [e0]
    show [Builtin.Str.strSub x 0 x.length] = [x]
    rw [StrLaws.sub_whole]
  unfold Txt.split
  split
  · rename_i hc
    rw [Bool.or_eq_true, decide_eq_true_eq, decide_eq_true_eq] at hc
    refine (nil_of ?_).symm
    rcases hc with h | h
    · cases ho : Builtin.Str.occurrences x p 0 x.length (x.length + 1) with
      | nil => rfl
      | cons c r =>
        rw [ho] at hG
        have := hG.2.1.1
        omega
    · have := kind_pos x
      omega
  · split
    · rename_i he
      exact (nil_of (List.isEmpty_iff.mp he)).symm
    · exact StrLaws.partsBetween_eq _ _ _
theorem rep1 (x p q : Str) (hk : Builtin.Str.strKind p = 1) (hp : p.cps.toList ≠ []) : (Str.join q (Txt.split x p)).cps.toList = repL p.cps.toList q.cps.toList x.cps.toList := by
  obtain ⟨cuts, f, e, hG, hn, _⟩ := split_cuts x p hk hp
  rw [e, join_parts_rgo x p q hp cuts 0 f (Nat.zero_le _) hG hn, List.drop_zero]
theorem calm2 : True := by k_with_none; w_top off; trivial
end
end Mine

namespace Mine
section
open PySem PySem.W PyProof.Rows
/-! the free group's words, letters a b A B as 97 98 65 66 -/
def cancels (c d : Nat) : Bool := (c == 97 && d == 65) || (c == 65 && d == 97) || (c == 98 && d == 66) || (c == 66 && d == 98)
def push (c : Nat) : List Nat → List Nat
  | [] => [c]
  | d :: t => if cancels c d then t else c :: d :: t
def red : List Nat → List Nat
  | [] => []
  | c :: t => push c (red t)
theorem calm3 : True := by k_with_none; w_top off; trivial
end
end Mine

namespace Mine
section
open PySem PySem.W PyProof.Rows
def isL (c : Nat) : Prop := c = 97 ∨ c = 65 ∨ c = 98 ∨ c = 66
abbrev letters (x : List Nat) : Prop := ∀ c ∈ x, isL c
def inv (c : Nat) : Nat := if c = 97 then 65 else if c = 65 then 97 else if c = 98 then 66 else if c = 66 then 98 else c
def con (x : List Nat) : List Nat := (x.map inv).reverse
/-! the moves -/
def sub (k : Int) (c : Nat) : List Nat :=
  if k = 0 then (if c = 97 then [97, 98] else if c = 65 then [66, 65] else [c])
  else if k = 1 then (if c = 97 then [97, 66] else if c = 65 then [98, 65] else [c])
  else if k = 2 then (if c = 97 then [98, 97] else if c = 65 then [65, 66] else [c])
  else if k = 3 then (if c = 97 then [66, 97] else if c = 65 then [65, 98] else [c])
  else if k = 4 then (if c = 98 then [98, 97] else if c = 66 then [65, 66] else [c])
  else if k = 5 then (if c = 98 then [98, 65] else if c = 66 then [97, 66] else [c])
  else if k = 6 then (if c = 98 then [97, 98] else if c = 66 then [66, 65] else [c])
  else if k = 7 then (if c = 98 then [65, 98] else if c = 66 then [66, 97] else [c])
  else if k = 8 then (if c = 97 then [65] else if c = 65 then [97] else [c])
  else if k = 9 then (if c = 98 then [66] else if c = 66 then [98] else [c])
  else (if c = 97 then [98] else if c = 98 then [97] else if c = 65 then [66] else if c = 66 then [65] else [c])
theorem calm4 : True := by k_with_none; w_top off; trivial
end
end Mine

namespace Mine
section
open PySem PySem.W PyProof.Rows
inductive RingTo : List Nat → List Nat → Prop where
  | stop {x : List Nat} : (∀ c m d, x = c :: (m ++ [d]) → c ≠ inv d) → RingTo x x
  | step {c d : Nat} {m r : List Nat} : c = inv d → RingTo m r → RingTo (c :: (m ++ [d])) r
def tS (s : Int) : List Nat := if s = 1 then [97, 98, 65, 66] else [98, 97, 66, 65]
/-! the counts -/
def da (x : List Nat) : Int := cnt 97 x - cnt 65 x
def db (x : List Nat) : Int := cnt 98 x - cnt 66 x
/-! what holds behind each move -/
structure Sta (u v c : List Nat) (s : Int) : Prop where
  lu : letters u
  lv : letters v
  lc : letters c
  ru : red u = u
  rv : red v = v
  comm : c = red (u ++ v ++ con u ++ con v)
  side : s = 1 ∨ s = -1
  conj : ∃ g, letters g ∧ c = red (g ++ tS s ++ con g)
  det : da u * db v - db u * da v = s
theorem calm5 : True := by k_with_none; w_top off; trivial
end
end Mine

namespace Mine
section
open PySem PySem.W PyProof.Rows
/-! texts as lists of signs -/
abbrev S (l : List Nat) : Str := ⟨l.toArray⟩
theorem S_cps (l : List Nat) : (S l).cps.toList = l := by simp
theorem S_of (x : Str) : x = S x.cps.toList := by simp [S]
theorem S_length (l : List Nat) : (S l).length = l.length := by simp [Str.length]
theorem len_cps (x : Str) : x.length = x.cps.toList.length := by simp [Str.length]
theorem S_eq {x : Str} {l : List Nat} (h : x.cps.toList = l) : x = S l := h ▸ S_of x
theorem S_append (l l' : List Nat) : S l ++ S l' = S (l ++ l') := S_eq (by rw [Str.cps_append, Array.toList_append])
def rep : Str → List Str → Str
  | x, p :: q :: r => rep (Str.join q (Txt.split x p)) r
  | x, _ => x
def RepOk : Str → List Str → Prop
  | x, p :: q :: r => (p.length == 0) = false ∧ x.length + 2 ≤ 1048576 ∧ q.length ≤ 10 ∧ RepOk (Str.join q (Txt.split x p)) r
  | _, [] => True
  | _, _ => False
theorem one (x : List Nat) (p q : Str) (p' q' : List Nat) (h1 : p = S p') (h2 : q = S q') (hk : p'.all (· < 256) = true) (hp : p' ≠ []) : Str.join q (Txt.split (S x) p) = S (repL p' q' x) := by
  subst h1 h2
  have k1 : Builtin.Str.strKind (S p') = 1 := by unfold Builtin.Str.strKind; rw [if_pos (by simpa [S] using hk)]
  have := rep1 (S x) (S p') (S q') k1 (by rw [S_cps]; exact hp)
  rw [S_cps, S_cps, S_cps] at this
  exact S_eq this
theorem rep_two {x p q : Str} {r : List Str} {l : List Nat} (h : Str.join q (Txt.split x p) = S l) : rep x (p :: q :: r) = rep (S l) r := by show rep (Str.join q (Txt.split x p)) r = _; rw [h]
theorem repOk_two {x p q : Str} {r : List Str} {l : List Nat} (h0 : (p.length == 0) = false) (h1 : x.length + 2 ≤ 1048576) (h2 : q.length ≤ 10) (h : Str.join q (Txt.split x p) = S l) (hr : RepOk (S l) r) : RepOk x (p :: q :: r) :=
  ⟨h0, h1, h2, by rw [h]; exact hr⟩
/-! single letters -/
theorem rgo_single (c : Nat) (q : List Nat) : ∀ x : List Nat, repL [c] q x = x.flatMap fun d => if d = c then q else [d]
  | [] => rfl
  | e :: t => by
    show rgo [c] q 0 (e :: t) = _
    rw [List.flatMap_cons, ← rgo_single c q t]
    by_cases h : e = c
    · subst h
      rw [if_pos rfl, rgo_hit (p := [e]) q (by simp) (⟨t, rfl⟩ : [e] <+: e :: t)]; rfl
    · rw [if_neg h, rgo_miss q (fun ⟨r, hr⟩ => h (List.cons.inj hr).1.symm)]; rfl
def laidOut : List (List Nat × List Nat) → List Str
  | [] => []
  | p :: r => S p.1 :: S p.2 :: laidOut r
def repP (ps : List (List Nat × List Nat)) (x : List Nat) : List Nat := ps.foldl (fun x p => repL p.1 p.2 x) x
theorem rep_laid : ∀ (ps : List (List Nat × List Nat)) (x : List Nat), (∀ p ∈ ps, p.1 ≠ [] ∧ p.1.all (· < 256) = true) → rep (S x) (laidOut ps) = S (repP ps x)
  | [], _, _ => rfl
  | p :: r, x, h => by
    show rep (S x) (S p.1 :: S p.2 :: laidOut r) = _
    rw [rep_two (one x _ _ p.1 p.2 rfl rfl (h p (.head _)).2 (h p (.head _)).1), rep_laid r _ fun q hq => h q (.tail _ hq)]
    rfl
theorem repP_single : ∀ (ps : List (List Nat × List Nat)), (∀ p ∈ ps, p.1 = [p.1.headD 0]) → ∀ x, repP ps x = x.flatMap fun d => repP ps [d]
  | [], _, x => by show x = x.flatMap fun d => [d]; rw [List.flatMap_singleton']
  | p :: r, h, x => by
    have hp := h p (.head _)
    have hr : ∀ q ∈ r, q.1 = [q.1.headD 0] := fun q hq => h q (.tail _ hq)
    have e : ∀ y, repL p.1 p.2 y = y.flatMap fun d => repL p.1 p.2 [d] := fun y => by
      rw [hp, rgo_single]
      congr 1
      funext d
      rw [rgo_single]; simp
    show repP r (repL p.1 p.2 x) = x.flatMap fun d => repP r (repL p.1 p.2 [d])
    rw [e x, repP_single r hr, List.flatMap_assoc]
    congr 1
    funext d
    exact (repP_single r hr _).symm
theorem flatMap_mem {f g : Nat → List Nat} : ∀ {x : List Nat}, (∀ c ∈ x, f c = g c) → x.flatMap f = x.flatMap g
  | [], _ => rfl
  | c :: t, h => by rw [List.flatMap_cons, List.flatMap_cons, h c (.head _), flatMap_mem fun d hd => h d (.tail _ hd)]
/-! room -/
theorem rgo_length (p q : List Nat) (m : Nat) (hm : 1 ≤ m) (hq : q.length ≤ m) : ∀ (x : List Nat) (k : Nat), (rgo p q k x).length ≤ m * x.length := by
  intro x
  induction x with
  | nil => intro k; cases k <;> simp [rgo]
  | cons c t ih =>
    intro k
    have e : m * (c :: t).length = m * t.length + m := by rw [List.length_cons, Nat.mul_succ]
    rw [e]
    cases k with
    | zero =>
      rw [rgo]
      split
      · have := ih (p.length - 1); rw [List.length_append]; omega
      · have := ih 0; rw [List.length_cons]; omega
    | succ k => have := ih k; rw [rgo]; omega
theorem repOk_laid : ∀ (ps : List (List Nat × List Nat)) (x : List Nat), (∀ p ∈ ps, p.1 ≠ [] ∧ p.1.all (· < 256) = true) → (∀ p ∈ ps, 1 ≤ p.2.length ∧ p.2.length ≤ 10) → (ps.foldl (fun n p => p.2.length * n) x.length + 2 ≤ 1048576) → RepOk (S x) (laidOut ps)
  | [], _, _, _, _ => trivial
  | p :: r, x, h, hq, hn => by
    have hp := h p (.head _)
    have hpq := hq p (.head _)
    have mono : ∀ (r : List (List Nat × List Nat)) (a b : Nat), a ≤ b → r.foldl (fun n p => p.2.length * n) a ≤ r.foldl (fun n p => p.2.length * n) b := by
      intro r
      induction r with
      | nil => intro a b h; exact h
      | cons p r ih => intro a b h; exact ih _ _ (Nat.mul_le_mul_left _ h)
    have grow : ∀ (r : List (List Nat × List Nat)) (a : Nat), (∀ p ∈ r, 1 ≤ p.2.length) → a ≤ r.foldl (fun n p => p.2.length * n) a := by
      intro r
      induction r with
      | nil => intro a _; exact Nat.le_refl _
      | cons p r ih =>
        intro a h
        exact Nat.le_trans (Nat.le_mul_of_pos_left a (h p (.head _))) (ih _ fun q hq => h q (.tail _ hq))
    have hx : x.length ≤ (p :: r).foldl (fun n p => p.2.length * n) x.length := grow (p :: r) _ fun q hq' => (hq q hq').1
    refine repOk_two ?_ (by rw [S_length]; omega) (by rw [S_length]; omega) (one x _ _ p.1 p.2 rfl rfl hp.2 hp.1) ?_
    · rw [S_length, beq_eq_false_iff_ne]
      have := List.length_pos_iff.mpr hp.1
      omega
    · refine repOk_laid r _ (fun q hq => h q (.tail _ hq)) (fun q hq' => hq q (.tail _ hq')) ?_
      have := mono r _ _ (rgo_length p.1 p.2 p.2.length hpq.1 (Nat.le_refl _) x 0)
      have e : (p :: r).foldl (fun n p => p.2.length * n) x.length = r.foldl (fun n p => p.2.length * n) (p.2.length * x.length) := rfl
      rw [e] at hn
      show r.foldl (fun n p => p.2.length * n) (rgo p.1 p.2 0 x).length + 2 ≤ 1048576
      omega
theorem calm6 : True := by k_with_none; w_top off; trivial
end
end Mine

namespace Mine
section
open PySem PySem.W PyProof.Rows PySem.Calls
section
variable {prog : Program} {w : World} {A : Around} {E : Value → Shared → Prop} {s : Shared} {h₀ : Heap} {L : Addr} {m : Str → Option Value} {env : Env}
/-- a comprehension over a text's signs -/
def SrcS (prog : Program) (w : World) (A : Around) (h₀ : Heap) (L : Addr) (m : Str → Option Value) (env : Env) (elt : Expr) (x : Str) (scope : Scope) (cl : List (Str × Addr)) (Fin : Shared → List Value → List (Addr × Obj) → Prop) (xv : Value) (s₁ : Shared) : Prop :=
  ∃ (y : Str) (t : Tok) (news : List (Addr × Obj)), xv = .str y t ∧ A.handled = none ∧ Fr h₀ L s₁.heap m ∧ News h₀ L s₁.heap news ∧ y.length ≤ sizeLine ∧
    ∀ s₂ : Shared, (∃ h, s₂ = { s₁ with heap := h }) → LCg.CompRest prog w A h₀ L m env elt x scope cl s₂ (fun _ => True) (SignAt y) (Fin s₂) y.length 0 [] news
theorem str_st {I : Addr} {P : Obj → Prop} : ∀ (_i : Nat) (h h' : Heap) (o : Obj) (nw : List (Addr × Obj)), (∃ o, h.get? I = some o ∧ P o) → h.get? I = some o → h'.get? I = some o → (∀ b o, h₀.get? b = some o → h'.get? b = some o) → News h₀ L h' nw → True → (∃ o, h'.get? I = some o ∧ P o) :=
  fun _ h h' o nw st e e' _ _ _ => by
    obtain ⟨o', q, r⟩ := st
    rw [e] at q
    cases q
    exact ⟨o, e', r⟩
theorem ListComp_S {elt iter : Expr} {x : Str} {px : Pos} {scope : Scope} {cl : List (Str × Addr)} {pos : Pos} {Q : Value → Shared → Prop} (_F₀ : Fr h₀ L s.heap m)
    (hclos : closureFor scope env = pure cl) (hcell : ∀ y ∈ scope.names, y.2 ≠ .cell) (hkind : scope.kind = .function)
    (hnames : ∀ y ∈ scope.names, y.2 = .local → scope.names.lookup y.1 = some .local) (hx : scope.names.lookup x = some .local)
    (h : wpAny (model prog w) A (eval iter env) (SrcS prog w A h₀ L m env elt x scope cl (fun s₂ => LCg.FinE h₀ L m s₂ Q)) E s)
    (hs : ∀ x, foldedSetIterable iter env x = pure x := by intro _; rfl) :
    wpAny (model prog w) A (eval (.ListComp elt [⟨.Name x px, iter, [], 0⟩] scope pos) env) Q E s := by
  rw [eval_ListComp]
  refine wpAny_comprehension_free (use := none) rfl hs hclos hkind hnames (wpAny_mono h (fun xv s₁ h₁ => ?_) fun _ _ e => e)
  obtain ⟨y, t, news, rfl, hh, F, N, hsz, R⟩ := h₁
  cases ha : y.cps.all (· < 128) with
  | true =>
    refine wpAny_pyIter_ascii ha ?_
    refine LCg.block_U (Walks.strAscii hh s₁.heap.objs.size y t) hsz (fun i h st => let ⟨o, e, _⟩ := st; ⟨o, e⟩) (fun i h h' o nw st e e' k N z => str_st i h h' o nw st e e' k N z) hcell hkind hx ⟨_, Heap.get?_push_size _ rfl, rfl, rfl⟩ (fun b hb => ?_)
      (F.keeps fun _ _ e => Heap.get?_push_of_some _ e) (N.grown fun _ _ e => Heap.get?_push_of_some _ e) (Nat.ne_of_lt F.ns.lt) (next_is_new F) (fun p hp => Nat.ne_of_lt (Heap.lt_size (N p hp).1)) trivial (R _ ⟨_, rfl⟩) ?_
    · rw [List.mem_singleton.mp hb]
      show s₁.heap.objs.size < (s₁.heap.push _).objs.size
      rw [Heap.size_push]; exact Nat.lt_succ_self _
    · intro D C h tk m' ys news' F' N' o1 hn hC₀ hD₀ hCL hDL hCD offC fin
      refine ⟨m', hn, fun h'' hs'' => fin D h'' tk (F'.change hs'' hCL hC₀) (fun p hp => ?_) o1⟩
      refine ⟨hs''.extBut _ _ ?_ (N' p hp).1, (N' p hp).2⟩
      rcases List.mem_cons.mp hp with rfl | hp
      · exact Ne.symm hCD
      · exact offC p hp
  | false =>
    refine wpAny_pyIter_wide ha ?_
    refine LCg.block_U (Walks.strWide hh s₁.heap.objs.size y t) hsz (fun i h st => let ⟨o, e, _⟩ := st; ⟨o, e⟩) (fun i h h' o nw st e e' k N z => str_st i h h' o nw st e e' k N z) hcell hkind hx ⟨_, Heap.get?_push_size _ rfl, rfl, rfl⟩ (fun b hb => ?_)
      (F.keeps fun _ _ e => Heap.get?_push_of_some _ e) (N.grown fun _ _ e => Heap.get?_push_of_some _ e) (Nat.ne_of_lt F.ns.lt) (next_is_new F) (fun p hp => Nat.ne_of_lt (Heap.lt_size (N p hp).1)) trivial (R _ ⟨_, rfl⟩) ?_
    · rw [List.mem_singleton.mp hb]
      show s₁.heap.objs.size < (s₁.heap.push _).objs.size
      rw [Heap.size_push]; exact Nat.lt_succ_self _
    · intro D C h tk m' ys news' F' N' o1 hn hC₀ hD₀ hCL hDL hCD offC fin
      refine ⟨m', hn, fun h'' hs'' => fin D h'' tk (F'.change hs'' hCL hC₀) (fun p hp => ?_) o1⟩
      refine ⟨hs''.extBut _ _ ?_ (N' p hp).1, (N' p hp).2⟩
      rcases List.mem_cons.mp hp with rfl | hp
      · exact Ne.symm hCD
      · exact offC p hp
/-- each element's text by a function of the sign -/
theorem rest_S {y : Str} {elt : Expr} {x : Str} {scope : Scope} {cl : List (Str × Addr)} {news : List (Addr × Obj)} {Fin : List Value → List (Addr × Obj) → Prop} (g : Nat → Str)
    (turn : ∀ c t I oI C oC D m₂ ys h tk (E' : Value → Shared → Prop), c ∈ y.cps.toList → LCg.NsObj oC m₂ → m₂ x = some (.str ⟨#[c]⟩ t) → Fr h₀ L h m → News h₀ L h ((I, oI) :: (C, oC) :: (D, LCg.lst ys) :: news) → LCg.Off3 I C D news → ((@Ne Nat I C) ∧ (@Ne Nat I D) ∧ (@Ne Nat C D)) →
      wpAny (model prog w) A (eval elt (compEnvC scope cl C env)) (LCg.CompEnd h₀ L m { s with heap := h, toks := tk } I oI C oC D (LCg.lst ys) (fun _ => True) (fun v news' => KCtEl news (g c) v news')) E' { s with heap := h, toks := tk })
    (fin : ∀ ys, StrsAre ys (y.cps.toList.map g) → Fin ys news) : LCg.CompRest prog w A h₀ L m env elt x scope cl s (fun _ => True) (SignAt y) Fin y.length 0 [] news := by
  have key : ∀ (j i : Nat) (ys : List Value), i + j = y.cps.toList.length → StrsAre ys ((y.cps.toList.take i).map g) → LCg.CompRest prog w A h₀ L m env elt x scope cl s (fun _ => True) (SignAt y) Fin j i ys news := by
    intro j
    induction j with
    | zero =>
      intro i ys hi hy
      have e : i = y.cps.toList.length := by omega
      subst e
      rw [List.take_length] at hy
      exact LCg.CompRest.zero (fin ys hy)
    | succ j ih =>
      intro i ys hi hy
      refine LCg.CompRest.succ ?_
      intro v I oI C oC D m₂ h tk E' hv hC hx F N off ne
      obtain ⟨c, t, hk, hv'⟩ := hv
      have hk' : y.cps.toList[i]? = some c := by rw [← hk]; simp
      rw [hv'] at hx
      refine wpAny_mono (turn c t I oI C oC D m₂ ys h tk E' (List.mem_of_getElem? hk') hC hx F N off ne) (fun y s₂ hq => ?_) fun _ _ e => e
      obtain ⟨h', tk', nw, e, F', N', off', hS, hn, t', hy'⟩ := hq
      rw [hn] at N' off'
      refine ⟨h', tk', news, e, F', N', off', hS, ?_⟩
      rw [hy']
      refine ih (i + 1) _ (by omega) ?_
      rw [List.take_add_one, hk']
      simpa using kct_snoc hy
  exact key y.length 0 [] (by rw [len_cps]; omega) (by simp only [List.take_zero, List.map_nil]; exact .nil)
end
theorem calm7 : True := by k_with_none; w_top off; trivial
end
end Mine

namespace Mine
section
open PySem PySem.W PyProof.Rows PySem.Calls
section
variable {prog : Program} {w : World} {A A₀ : Around} {s : Shared} {K : Frag} {L : Addr} {h₀ base : Heap} {m mg mb : Str → Option Value} {news : List (Addr × Obj)} {p : Program} {loose : List Str} {mean : ExcName → Option Value}
/-- a def entered upon the whole heap: the callee's ledger begins empty -/
theorem code_defB {env : Env} {outer : List Env} {R : Result → Shared → Prop} {name qual : Str} {params : Arguments} {body : List Stmt} {scope : Scope} {dV kV doc pm cdv ct oc : Value} {an od : Option Addr} {osl : Array (Option Value)} {f : Addr} {args : Args} {binds : List (Str × Value)}
    (B : Below A₀ base outer h₀) (F : Fr h₀ L s.heap m) (X₀ : K.In h₀) (N : News h₀ L s.heap news) (T : Top p loose mean mg mb h₀) (hA : A.frames = some (env :: outer)) (hf : env.frame = some L) (hke : env.scope.kind = .function)
    (ho : K.lookup f = some ⟨oc, od, .func (fnOf name qual params body scope dV kV doc pm an cdv ct), osl⟩) (hcd : codeIn K cdv qual = true) (hroom : A.depth < recursionLimit)
    (hbind : BindsTo s (fnOf name qual params body scope dV kV doc pm an cdv ct) args binds) (hloc : ∀ y ∈ binds, scope.names.lookup y.1 = some .local)
    (h : ∀ g L' h₁, Fr h₀ L g m → Fr g L' h₁ (fun y => binds.reverse.lookup y) → News g L' h₁ [] → Below A base (env :: outer) g → K.In g → Top p loose mean mg mb g → News h₀ L g news →
      wpAny (model prog w) (A.deeper (envOf qual scope L' f cdv)) (execs body (envOf qual scope L' f cdv))
        (fun fl s' => LeaveK h₀ L m g R (match fl with | .ret v => v | _ => .none) s')
        (fun e s' => wpAny (model prog w) (A.deeper (envOf qual scope L' f cdv)) (leaving (envOf qual scope L' f cdv) e) (fun _ s'' => R (.error e) s'') (fun e' s'' => R (.error e') s'') s')
        { s with heap := h₁, toks := s.toks + binds.length })
    (hco : scope.isCoroutine = false) (hgen : scope.isGenerator = false) (hk : scope.kind = .function)
    (hcell : ∀ x ∈ scope.names, x.2 ≠ .cell) : codeAny (model prog w) A (.call (.ref f) args) R s := by
  have st : h₀.StaysIn s.heap := fun b o e => F.keep b o e
  have B₁ := pushX B F hf hke
  have BG : Below A base (env :: outer) s.heap := ⟨hA, fun b o e => st b o (B.stays b o e), B₁.frames⟩
  refine codeAny_call_def (fd := fnX name qual params body scope [] dV kV doc pm an cdv ct) (body := body) (binds := binds) hroom ((X₀.keeps F.keep) _ _ ho) rfl (T.nolimit.keeps F.keep) (codeRec_of (X₀.keeps F.keep) hcd) rfl hbind hcell hloc (fun h₁ hns hk₁ => ?_) hco hgen hk
  refine wpAny_mono (h s.heap s.heap.objs.size h₁ F ⟨hns, hk₁, Nat.le_refl _⟩ (fun _ hp => nomatch hp) BG (X₀.keeps st) (T.keeps st) N) (fun fl s' hl => ?_) fun _ _ y => y
  obtain ⟨L', m', news', F', N', k⟩ := hl
  refine k (F.keeps F'.keep) fun q hq => ?_
  have h3 := N' q hq
  refine ⟨h3.1, fun e => ?_, ?_⟩
  · obtain ⟨oL, _, _, hL, _⟩ := F.ns
    have := h3.2.2
    rw [e, hL] at this
    cases this
  · cases q2 : h₀.get? q.1 with
    | none => rfl
    | some o =>
      have := h3.2.2
      rw [F.keep _ _ q2] at this
      cases this
end
theorem calm8 : True := by k_with_none; w_top off; trivial
end
end Mine

namespace Mine
section
open PySem PySem.W PyProof.Rows
set_option maxHeartbeats 8000000
theorem tj (q : Str) (ys : List Str) : Txt.join q ys = Str.join q ys := StrLaws.glued_eq_join q ys
theorem jok {l : List (Str × Tok)} {x p q : Str} (e : l.map (·.1) = Txt.split x p) (hp : (p.length == 0) = false) (hx : x.length + 2 ≤ 1048576) (hq : q.length ≤ 10) :
    ((l.map (·.1)).map (·.length)).sum + (l.map (·.1)).length * q.length ≤ 16777216 := by
  have hp1 : 1 ≤ p.length := by
    rw [beq_eq_false_iff_ne] at hp; omega
  rw [e]
  have hw := split_weight x p hp1
  have h2 : (Txt.split x p).length * q.length ≤ (Txt.split x p).length * 10 := Nat.mul_le_mul_left _ hq
  omega
theorem newsTail {h₀ h : Heap} {L : Addr} {p : Addr × Obj} {news : List (Addr × Obj)} (N : News h₀ L h (p :: news)) : News h₀ L h news := fun q hq => N q (List.Mem.tail _ hq)
theorem newsMid {h₀ h : Heap} {L : Addr} {p : Addr × Obj} {pre news : List (Addr × Obj)} (N : News h₀ L h (p :: (pre ++ news))) : News h₀ L h (p :: news) := fun q hq => by
  rcases List.mem_cons.mp hq with rfl | hq
  · exact N _ (List.Mem.head _)
  · exact N _ (List.Mem.tail _ (List.mem_append_right _ hq))
local macro_rules | `(tactic| walk_at "truthy ref") => `(tactic| (k_here; k_dflt (refine' ktl_truthyK ?N ?m ?z ?_; (case N => k_asm); (case m => k_mem); (case z => ((simp only [List.length_cons, List.length_map] at *); omega)); k_whole); (try simp only [List.isEmpty_cons, List.isEmpty_nil, Bool.not_false, Bool.not_true])))
local macro_rules | `(tactic| walk_at "call builtin:str.split") => `(tactic| (k_here; refine' KSpl.split1 ?F ?N ?y ?_ ?z; (case F => k_asm); (case N => k_asm); (case y => assumption); (case z => assumption); intro D' l' h' k' e' a' F' N' l1; (try k_lt l1)))
local macro_rules | `(tactic| walk_at "call builtin:str.join") => `(tactic| (k_here; refine' join_list (News.isList (by k_asm) (by k_mem)) ?a ?b ?_; (case a => assumption); (case b => exact jok (by assumption) (by assumption) (by assumption) (by assumption)); intro t' k'))
theorem frameTP (a b : Str) (v1 v2 w1 w2 : Option Value) : (fun y : Str => if y = a then v1 else if y = b then v2 else if y = a then w1 else if y = b then w2 else none) = fun y : Str => if y = a then v1 else if y = b then v2 else none := by
  funext y
  by_cases h1 : y = a
  · simp only [if_pos h1]
  · by_cases h2 : y = b
    · simp only [if_neg h1, if_pos h2]
    · simp only [if_neg h1, if_neg h2]
theorem seqIdx {j n : Nat} (h : j < n) : seqIndex? (j : Int) n = some j := by
  unfold seqIndex?
  have h0 : ¬ ((j : Int) < 0) := by omega
  simp only [if_neg h0]
  have h1 : (decide (0 ≤ (j : Int)) && decide ((j : Int) < (n : Int))) = true := by
    simp only [Bool.and_eq_true, decide_eq_true_eq]; omega
  rw [if_pos h1]
  rfl
section
variable {prog : Program} {w : World} {A : Around} {E : Value → Shared → Prop} {s : Shared} {h₀ : Heap} {L : Addr} {m : Str → Option Value} {news : List (Addr × Obj)}
theorem itemT {value slice : PySem.Expr} {t : Addr} {l : List Value} {k : Int} {u : Tok} {x : Value} {Q : Value → Shared → Prop} (N : News h₀ L s.heap news) (hm : (t, ({ cls := .type "tuple", data := .seq l.toArray } : Obj)) ∈ news) (j : Nat)
    (hk : k = (j : Int)) (hj : j < 1000000) (hx : l[j]? = some x) (h : Q x s)
    (hs : subscripted slice false (.ref t) (.int k u) = operate [.ref t, .int k u] (getItem (.ref t) (.int k u)) := by with_unfolding_all rfl) (hg : ∀ r, letTemporaryGo value (.ref t) r = pure () := by intro _; with_unfolding_all rfl) :
    wpAny (model prog w) A (subscriptTail value slice (.ref t) (.int k u)) Q E s := by
  subst hk
  have hlt : j < l.length := by
    rcases Nat.lt_or_ge j l.length with h | h
    · exact h
    · rw [List.getElem?_eq_none h] at hx; cases hx
  exact item_tupleL (j := j) (News.isTup N hm) (by omega) (by omega) (seqIdx hlt) hx h hs hg
theorem cut2 {value slice : PySem.Expr} {t : Addr} {a b : Value} {l : List Value} {u : Tok} {Q : Value → Shared → Prop}
    (F : Fr h₀ L s.heap m) (N : News h₀ L s.heap news) (hm : (t, ({ cls := .type "tuple", data := .seq (a :: b :: l).toArray } : Obj)) ∈ news) (hz : l.length ≤ 1000)
    (h : ∀ D h', Fr h₀ L h' m → News h₀ L h' ((D, { cls := .type "tuple", data := .seq l.toArray }) :: news) → (∀ p ∈ news, p.1 < D) → Q (.ref D) { s with heap := h' })
    (hs : subscripted slice false (.ref t) (.ref s.heap.objs.size) = operate [.ref s.heap.objs.size, .ref t] (getItem (.ref t) (.ref s.heap.objs.size)) := by with_unfolding_all rfl)
    (hg : ∀ r, letTemporaryGo value (.ref t) r = pure () := by intro _; with_unfolding_all rfl) :
    wpAny (model prog w) A (subscriptTail value slice (.ref t) (.ref s.heap.objs.size)) Q E { s with heap := s.heap.push { cls := .type "slice", data := .fields #[.int 2 u, .none, .none] } } := by
  have e : sizeLine = 16777216 := by decide
  refine slice_tuple_from (a := 2) F N (News.isTup N hm) (by decide) (by simp) (fun h' F' N' => h _ h' F' N' fun p hp => Nat.lt_succ_of_lt (Heap.lt_size (N p hp).1)) hs hg (by simp only [List.size_toArray, List.length_cons]; omega)
end
local macro_rules | `(tactic| walk_at "subscriptTail Name Constant ref int") => `(tactic| (k_here; k_dflt (first | (refine' itemT ?N ?m 0 ?k ?j ?x ?_ ?s ?t; (case N => k_asm); (case m => k_mem); (case k => exact rfl); (case j => decide); (case x => exact rfl); (case s => with_unfolding_all rfl); (case t => kmk_pure); k_whole) | (refine' itemT ?N ?m 1 ?k ?j ?x ?_ ?s ?t; (case N => k_asm); (case m => k_mem); (case k => exact rfl); (case j => decide); (case x => exact rfl); (case s => with_unfolding_all rfl); (case t => kmk_pure); k_whole))))
local macro_rules | `(tactic| walk_at "subscriptTail Name Slice ref ref") => `(tactic| (k_here; k_dflt (refine' cut2 ?F ?N ?m ?z ?_ ?s ?t; (case F => k_asm); (case N => k_asm); (case m => k_mem); (case z => ((simp only [List.length_cons, List.length_map] at *); omega)); (case s => with_unfolding_all rfl); (case t => kmk_pure); k_whole); intro D' h' F' N' l1; (try k_lt l1)))
theorem rp {w : World} {mean : ExcName → Option Value} {mg mb : Str → Option Value} {dp un : Nat} {gd : Option (List Code)} {cn : Str} {cs : Scope} {a : Addr} {ccd : Value} {cl : List (Str × Addr)} {outer : List Env} {A₀ : Around} {base h₀ : Heap} {L : Addr} {m : Str → Option Value} {news : List (Addr × Obj)} {s : Shared} {Q E : Value → Shared → Prop}
    {x : Str} {tx : Tok} {vs : List Value} {ys : List Str}
    (B : Below A₀ base outer h₀) (F : Fr h₀ L s.heap m) (X : (hd02.heap_39 w.params).In h₀) (N : News h₀ L s.heap news) (T : Top hd02.view_39 (looseW hd02.view_39 []) mean mg mb h₀) (hk : cs.kind = .function)
    (hv : StrsAre vs ys) (hl : RepOk x ys) (hlen : ys.length ≤ 26) (hd : dp + 1 < recursionLimit) (hu : un + 8 < cLine)
    (hret : ∀ (t : Tok) (h' : Heap) (tk' : Nat), Fr h₀ L h' m → News h₀ L h' news → Q (.str (rep x ys) t) { s with heap := h', toks := tk' }) :
    wpAny (model PySem.Challenge.rw_ph0179_02.row.prog w) (ktrTop dp un gd cn cs L a ccd cl outer) (call (.ref 21) (.str x tx :: vs)) Q E s := by
  revert X; k_fill; intro X
  obtain ⟨l, rfl, rfl⟩ := strsAre_values hv
  clear hv
  rw [List.length_map] at hlen
  refine wpAny_call ?_
  refine' kp_rest (vs := strValues l) (g₁ := fun D => some [("text", .str x tx), ("pairs", .ref D)]) (binds := fun D => [("text", .str x tx), ("pairs", .ref D)]) ?k1 ?k2 ?k3 ?k4 ?k5 ?kA ?kF ?kK ?k6 ?k7 ?k8 ?kV ?kP ?kG ?kB ?_ ?c2 ?c3 ?c4 ?c5
  case k1 => k_asm
  case k2 => k_asm
  case k3 => k_asm
  case k4 => k_asm
  case k5 => k_asm
  case kA => exact rfl
  case kF => exact rfl
  case kK => assumption
  case k6 => k_is
  case k7 => k_is
  case k8 => ktr_room
  case kV => exact rfl
  case kP =>
    clear hl hret
    iterate 27 (rcases l with _ | ⟨⟨p, t⟩, l⟩; · exact rfl)
    simp only [List.length_cons] at hlen
    omega
  case kG => exact fun _ => rfl
  case kB => exact fun _ => locs rfl
  case c5 => decide
  case c2 => exact rfl
  case c3 => exact rfl
  case c4 => exact rfl
  k_whole
  intro D' g' L' h' l1 FG' F' N' B' X' T'
  (try k_lt l1); (try dsimp only); (try k_lift B'); (try k_fold)
  refine wpAny_execs_cons ?_
  refine While_inv2 (n₀ := l.length) (fun n m₁ nx => ∃ (xt : Str) (tt : Tok) (lt : List (Str × Tok)) (D : Addr), n = lt.length ∧ m₁ = (fun y : Str => if y = ("pairs" : Str) then some (Value.ref D) else if y = ("text" : Str) then some (Value.str xt tt) else none) ∧ lt.length ≤ 26 ∧ nx = (D, ({ cls := .type "tuple", data := .seq (strValues lt).toArray } : Obj)) :: news ∧ rep xt (lt.map (·.1)) = rep x (l.map (·.1)) ∧ RepOk xt (lt.map (·.1))) F' N' ?hJ ?turn ?hE
  case hJ =>
    refine ⟨x, tx, l, D', rfl, ?_, hlen, rfl, rfl, hl⟩
    funext y
    show List.lookup y [("pairs", Value.ref D'), ("text", Value.str x tx)] = _
    by_cases h1 : y = ("pairs" : Str)
    · subst h1; rfl
    · by_cases h2 : y = ("text" : Str)
      · subst h2; rfl
      · simp [List.lookup, h1, h2, beq_eq_false_iff_ne.mpr h1, beq_eq_false_iff_ne.mpr h2]
  case hE => passes_own
  rintro n m₁ nx h₁ tk₁ F₁ N₁ ⟨xt, tt, lt, D, hn, hm, hlt, hnx, hrep, hok⟩
  subst hn hm hnx
  clear F' N'
  rcases lt with _ | ⟨⟨p, tp⟩, _ | ⟨⟨q, tq⟩, r⟩⟩
  · simp only [strValues, List.map_nil, List.map_cons] at N₁ hrep
    k_steps
    have e0 : xt = rep x (List.map (fun x => x.fst) l) := hrep
    rw [e0]
    exact hret _ _ _ (by assumption) (newsTail (by assumption))
  · exact hok.elim
  · simp only [strValues, List.map_nil, List.map_cons] at N₁ hrep hok
    obtain ⟨hp0, hxs, hq, hok⟩ := hok
    have hz1 : xt.length + 2 ≤ sizeLine := Nat.le_trans hxs (by decide)
    k_steps
    rename_i F9 N9
    rename List.map _ _ = Txt.split _ _ => e9
    rw [e9, tj] at F9
    exact ⟨_, _, _, _, r.length, rfl, F9, newsMid (pre := [_, _]) N9, by simp only [List.length_cons]; omega, _, _, r, _, rfl, frameTP _ _ _ _ _ _, by simp only [List.length_cons] at hlt; omega, rfl, hrep, hok⟩
theorem calm9 : True := by k_with_none; w_top off; trivial
end
end Mine

namespace Mine
section
open PySem PySem.W PyProof.Rows
/-! law 02: the plain part. I V X L C D M = 73 86 88 76 67 68 77 -/
abbrev rp_ (n c : Nat) : List Nat := List.replicate n c
def word7 (m d c l x v i : Nat) : List Nat := rp_ m 77 ++ (rp_ d 68 ++ (rp_ c 67 ++ (rp_ l 76 ++ (rp_ x 88 ++ (rp_ v 86 ++ rp_ i 73)))))
theorem rgo_free {p : List Nat} (q : List Nat) {e : Nat} {p' : List Nat} (hp : p = e :: p') : ∀ (w r : List Nat), e ∉ w → rgo p q 0 (w ++ r) = w ++ rgo p q 0 r
  | [], _, _ => rfl
  | f :: w, r, h => by
    have hf : ¬ p <+: f :: (w ++ r) := fun ⟨z, hz⟩ => by
      rw [hp] at hz
      exact h ((List.cons.inj hz).1 ▸ .head _)
    show rgo p q 0 (f :: (w ++ r)) = f :: (w ++ rgo p q 0 r)
    rw [rgo_miss q hf, rgo_free q hp w r (fun hm => h (.tail _ hm))]
theorem repl_prefix {k n e : Nat} {t : List Nat} (ht : e ∉ t) : rp_ k e <+: rp_ n e ++ t → k ≤ n := by
  intro ⟨z, hz⟩
  rcases Nat.lt_or_ge n k with h | h
  · exfalso
    have h1 : (rp_ k e ++ z)[n]? = some e := by
      rw [List.getElem?_append_left (by simp; exact h)]
      simp [h]
    rw [hz, List.getElem?_append_right (by simp)] at h1
    simp at h1
    exact ht (List.mem_of_getElem? h1)
  · exact h
theorem rgo_run (k e : Nat) (hk : 1 ≤ k) (f : Nat) {t : List Nat} (ht : e ∉ t) : ∀ (n : Nat), rgo (rp_ k e) [f] 0 (rp_ n e ++ t) = rp_ (n / k) f ++ (rp_ (n % k) e ++ t) := by
  have hp : rp_ k e = e :: rp_ (k - 1) e := by
    have : k = (k - 1) + 1 := by omega
    conv => lhs; rw [this]
    rfl
  have htail : rgo (rp_ k e) [f] 0 t = t := by
    have := rgo_free [f] hp t [] ht
    simpa [rgo] using this
  intro n
  induction n using Nat.strongRecOn with
  | _ n ih =>
    rcases Nat.lt_or_ge n k with h | h
    · rw [Nat.div_eq_of_lt h, Nat.mod_eq_of_lt h]
      show _ = [] ++ _
      rw [List.nil_append]
      clear ih
      induction n with
      | zero => simpa using htail
      | succ n ih2 =>
        have hm : ¬ rp_ k e <+: e :: (rp_ n e ++ t) := fun hh => by
          have := repl_prefix (n := n + 1) ht hh
          omega
        show rgo _ _ 0 (e :: (rp_ n e ++ t)) = e :: (rp_ n e ++ t)
        rw [rgo_miss [f] hm, ih2 (by omega)]
    · have e1 : rp_ n e ++ t = rp_ k e ++ (rp_ (n - k) e ++ t) := by
        rw [← List.append_assoc, List.replicate_append_replicate]
        congr 2
        omega
      have h2 : rp_ k e <+: rp_ n e ++ t := ⟨_, e1.symm⟩
      rw [rgo_hit [f] (by rw [hp]; simp) h2]
      have e2 : (rp_ n e ++ t).drop (rp_ k e).length = rp_ (n - k) e ++ t := by rw [e1]; simp
      rw [e2, ih (n - k) (by omega)]
      have e3 : n / k = (n - k) / k + 1 := by
        have : n = (n - k) + k := by omega
        conv => lhs; rw [this]
        rw [Nat.add_div_right _ (by omega)]
      have e4 : n % k = (n - k) % k := by
        have : n = (n - k) + k := by omega
        conv => lhs; rw [this]
        rw [Nat.add_mod_right]
      rw [e3, e4]
      rfl
theorem rp_add (a b c : Nat) (t : List Nat) : rp_ a c ++ (rp_ b c ++ t) = rp_ (a + b) c ++ t := by rw [← List.append_assoc, List.replicate_append_replicate]
/-- one carry -/
theorem carry (k e f : Nat) (hk : 1 ≤ k) {w t : List Nat} (hw : e ∉ w) (ht : e ∉ t) (n : Nat) : repL (rp_ k e) [f] (w ++ (rp_ n e ++ t)) = w ++ (rp_ (n / k) f ++ (rp_ (n % k) e ++ t)) := by
  have hp : rp_ k e = e :: rp_ (k - 1) e := by
    have : k = (k - 1) + 1 := by omega
    conv => lhs; rw [this]
    rfl
  show rgo _ _ 0 _ = _
  rw [rgo_free [f] hp w _ hw, rgo_run k e hk f ht n]
abbrev grown : List (List Nat × List Nat) := [([73, 73, 73, 73, 73], [86]), ([86, 86], [88]), ([88, 88, 88, 88, 88], [76]), ([76, 76], [67]), ([67, 67, 67, 67, 67], [68]), ([68, 68], [77])]
abbrev short : List (List Nat × List Nat) := [([86, 73, 73, 73, 73], [73, 88]), ([73, 73, 73, 73], [73, 86]), ([76, 88, 88, 88, 88], [88, 67]), ([88, 88, 88, 88], [88, 76]), ([68, 67, 67, 67, 67], [67, 77]), ([67, 67, 67, 67], [67, 68])]
abbrev shortT : List (List Nat × List Nat) := [([67, 68], [67, 67, 67, 67]), ([67, 77], [68, 67, 67, 67, 67]), ([88, 76], [88, 88, 88, 88]), ([88, 67], [76, 88, 88, 88, 88]), ([73, 86], [73, 73, 73, 73]), ([73, 88], [86, 73, 73, 73, 73])]
abbrev grownT : List (List Nat × List Nat) := [([77], [68, 68]), ([68], [67, 67, 67, 67, 67]), ([67], [76, 76]), ([76], [88, 88, 88, 88, 88]), ([88], [86, 86]), ([86], [73, 73, 73, 73, 73])]
def canon (n : Nat) : List Nat := word7 (n / 1000) (n / 500 % 2) (n / 100 % 5) (n / 50 % 2) (n / 10 % 5) (n / 5 % 2) (n % 5)
theorem step_i (m d c l x v i : Nat) : repL [73, 73, 73, 73, 73] [86] (word7 m d c l x v i) = word7 m d c l x (v + i / 5) (i % 5) := by
  have h := carry 5 73 86 (by decide) (w := rp_ m 77 ++ (rp_ d 68 ++ (rp_ c 67 ++ (rp_ l 76 ++ (rp_ x 88 ++ rp_ v 86))))) (t := []) (by simp) (by simp) i
  simp only [List.append_assoc, List.append_nil] at h
  unfold word7
  rw [show ([73, 73, 73, 73, 73] : List Nat) = rp_ 5 73 from rfl, h, rp_add]
theorem step_v (m d c l x v i : Nat) : repL [86, 86] [88] (word7 m d c l x v i) = word7 m d c l (x + v / 2) (v % 2) i := by
  have h := carry 2 86 88 (by decide) (w := rp_ m 77 ++ (rp_ d 68 ++ (rp_ c 67 ++ (rp_ l 76 ++ rp_ x 88)))) (t := rp_ i 73) (by simp) (by simp) v
  simp only [List.append_assoc] at h
  unfold word7
  rw [show ([86, 86] : List Nat) = rp_ 2 86 from rfl, h, rp_add]
theorem step_x (m d c l x v i : Nat) : repL [88, 88, 88, 88, 88] [76] (word7 m d c l x v i) = word7 m d c (l + x / 5) (x % 5) v i := by
  have h := carry 5 88 76 (by decide) (w := rp_ m 77 ++ (rp_ d 68 ++ (rp_ c 67 ++ rp_ l 76))) (t := rp_ v 86 ++ rp_ i 73) (by simp) (by simp) x
  simp only [List.append_assoc] at h
  unfold word7
  rw [show ([88, 88, 88, 88, 88] : List Nat) = rp_ 5 88 from rfl, h, rp_add]
theorem step_l (m d c l x v i : Nat) : repL [76, 76] [67] (word7 m d c l x v i) = word7 m d (c + l / 2) (l % 2) x v i := by
  have h := carry 2 76 67 (by decide) (w := rp_ m 77 ++ (rp_ d 68 ++ rp_ c 67)) (t := rp_ x 88 ++ (rp_ v 86 ++ rp_ i 73)) (by simp) (by simp) l
  simp only [List.append_assoc] at h
  unfold word7
  rw [show ([76, 76] : List Nat) = rp_ 2 76 from rfl, h, rp_add]
theorem step_c (m d c l x v i : Nat) : repL [67, 67, 67, 67, 67] [68] (word7 m d c l x v i) = word7 m (d + c / 5) (c % 5) l x v i := by
  have h := carry 5 67 68 (by decide) (w := rp_ m 77 ++ rp_ d 68) (t := rp_ l 76 ++ (rp_ x 88 ++ (rp_ v 86 ++ rp_ i 73))) (by simp) (by simp) c
  simp only [List.append_assoc] at h
  unfold word7
  rw [show ([67, 67, 67, 67, 67] : List Nat) = rp_ 5 67 from rfl, h, rp_add]
theorem step_d (m d c l x v i : Nat) : repL [68, 68] [77] (word7 m d c l x v i) = word7 (m + d / 2) (d % 2) c l x v i := by
  have h := carry 2 68 77 (by decide) (w := rp_ m 77) (t := rp_ c 67 ++ (rp_ l 76 ++ (rp_ x 88 ++ (rp_ v 86 ++ rp_ i 73)))) (by simp) (by simp) d
  unfold word7
  rw [show ([68, 68] : List Nat) = rp_ 2 68 from rfl, h, rp_add]
theorem grown_word (m d c l x v i : Nat) : repP grown (word7 m d c l x v i) = canon (1000 * m + 500 * d + 100 * c + 50 * l + 10 * x + 5 * v + i) := by
  show repL _ _ (repL _ _ (repL _ _ (repL _ _ (repL _ _ (repL _ _ _))))) = _
  rw [step_i, step_v, step_x, step_l, step_c, step_d]
  unfold canon
  congr 1 <;> omega
theorem ones (n : Nat) : rp_ n 73 = word7 0 0 0 0 0 0 n := by simp [word7]
theorem grown_ones (n : Nat) : repP grown (rp_ n 73) = canon n := by rw [ones, grown_word]; congr 1; omega
theorem half (n : Nat) : repL [73, 73] [73] (rp_ n 73) = rp_ ((n + 1) / 2) 73 := by
  have h := rgo_run 2 73 (by decide) 73 (t := []) (by simp) n
  simp only [List.append_nil] at h
  show rgo (rp_ 2 73) [73] 0 (rp_ n 73) = _
  rw [h, List.replicate_append_replicate]
  congr 1
  omega
/-! the way down -/
theorem flat_rp (c : Nat) (g : Nat → List Nat) : ∀ n, (rp_ n c).flatMap g = (List.replicate n (g c)).flatten
  | 0 => rfl
  | n + 1 => by
    show (c :: rp_ n c).flatMap g = _
    rw [List.flatMap_cons, flat_rp c g n]; rfl
theorem flat_const (a b c : Nat) : ∀ n, (List.replicate n (rp_ a c)).flatten = rp_ (a * n) c
  | 0 => by simp
  | n + 1 => by
    rw [List.replicate_succ, List.flatten_cons, flat_const a b c n, List.replicate_append_replicate, Nat.mul_succ, Nat.add_comm]
theorem down (e f k : Nat) (n : Nat) {w t : List Nat} (hw : e ∉ w) (ht : e ∉ t) : repL [e] (rp_ k f) (w ++ (rp_ n e ++ t)) = w ++ (rp_ (k * n) f ++ t) := by
  have free : ∀ z : List Nat, e ∉ z → (z.flatMap fun d => if d = e then rp_ k f else [d]) = z := by
    intro z
    induction z with
    | nil => intro _; rfl
    | cons y z ih =>
      intro h
      rw [List.flatMap_cons, ih fun hm => h (.tail _ hm), if_neg (fun hy : y = e => h (by rw [hy]; exact .head _))]
      rfl
  rw [rgo_single, List.flatMap_append, List.flatMap_append, free w hw, free t ht, flat_rp, if_pos rfl, flat_const k k f n]
theorem down_word (m d c l x v i : Nat) : repP grownT (word7 m d c l x v i) = rp_ (1000 * m + 500 * d + 100 * c + 50 * l + 10 * x + 5 * v + i) 73 := by
  have s1 : repL [77] [68, 68] (word7 m d c l x v i) = word7 0 (2 * m + d) c l x v i := by
    have h := down 77 68 2 m (w := []) (t := rp_ d 68 ++ (rp_ c 67 ++ (rp_ l 76 ++ (rp_ x 88 ++ (rp_ v 86 ++ rp_ i 73))))) (by simp) (by simp)
    unfold word7
    rw [show ([68, 68] : List Nat) = rp_ 2 68 from rfl]
    simp only [List.nil_append] at h
    rw [h, rp_add]; simp
  have s2 : ∀ d, repL [68] [67, 67, 67, 67, 67] (word7 0 d c l x v i) = word7 0 0 (5 * d + c) l x v i := fun d => by
    have h := down 68 67 5 d (w := []) (t := rp_ c 67 ++ (rp_ l 76 ++ (rp_ x 88 ++ (rp_ v 86 ++ rp_ i 73)))) (by simp) (by simp)
    unfold word7
    rw [show ([67, 67, 67, 67, 67] : List Nat) = rp_ 5 67 from rfl]
    simp only [List.nil_append, List.replicate_zero] at h ⊢
    rw [h, rp_add]
  have s3 : ∀ c, repL [67] [76, 76] (word7 0 0 c l x v i) = word7 0 0 0 (2 * c + l) x v i := fun c => by
    have h := down 67 76 2 c (w := []) (t := rp_ l 76 ++ (rp_ x 88 ++ (rp_ v 86 ++ rp_ i 73))) (by simp) (by simp)
    unfold word7
    rw [show ([76, 76] : List Nat) = rp_ 2 76 from rfl]
    simp only [List.nil_append, List.replicate_zero] at h ⊢
    rw [h, rp_add]
  have s4 : ∀ l, repL [76] [88, 88, 88, 88, 88] (word7 0 0 0 l x v i) = word7 0 0 0 0 (5 * l + x) v i := fun l => by
    have h := down 76 88 5 l (w := []) (t := rp_ x 88 ++ (rp_ v 86 ++ rp_ i 73)) (by simp) (by simp)
    unfold word7
    rw [show ([88, 88, 88, 88, 88] : List Nat) = rp_ 5 88 from rfl]
    simp only [List.nil_append, List.replicate_zero] at h ⊢
    rw [h, rp_add]
  have s5 : ∀ x, repL [88] [86, 86] (word7 0 0 0 0 x v i) = word7 0 0 0 0 0 (2 * x + v) i := fun x => by
    have h := down 88 86 2 x (w := []) (t := rp_ v 86 ++ rp_ i 73) (by simp) (by simp)
    unfold word7
    rw [show ([86, 86] : List Nat) = rp_ 2 86 from rfl]
    simp only [List.nil_append, List.replicate_zero] at h ⊢
    rw [h, rp_add]
  have s6 : ∀ v, repL [86] [73, 73, 73, 73, 73] (word7 0 0 0 0 0 v i) = rp_ (5 * v + i) 73 := fun v => by
    have h := down 86 73 5 v (w := []) (t := rp_ i 73) (by simp) (by simp)
    unfold word7
    rw [show ([73, 73, 73, 73, 73] : List Nat) = rp_ 5 73 from rfl]
    simp only [List.nil_append, List.replicate_zero] at h ⊢
    rw [h, List.replicate_append_replicate]
  show repL _ _ (repL _ _ (repL _ _ (repL _ _ (repL _ _ (repL _ _ _))))) = _
  rw [s1, s2, s3, s4, s5, s6]
  congr 1
  omega
theorem down_canon (n : Nat) : repP grownT (canon n) = rp_ n 73 := by
  unfold canon
  rw [down_word]
  congr 1
  omega
/-! the numeral -/
def digit (a b c k : Nat) : List Nat := [[], [a], [a, a], [a, a, a], [a, b], [b], [b, a], [b, a, a], [b, a, a, a], [a, c]].getD k []
def numeral (n : Nat) : List Nat := rp_ (n / 1000) 77 ++ digit 67 68 77 (n / 100 % 10) ++ digit 88 76 67 (n / 10 % 10) ++ digit 73 86 88 (n % 10)
theorem rgo_cross {p : List Nat} (q : List Nat) (hp : p ≠ []) {y : List Nat} (hy : ∀ f, y.head? = some f → f ∉ p) : ∀ (n : Nat) (x : List Nat), x.length ≤ n → rgo p q 0 (x ++ y) = rgo p q 0 x ++ rgo p q 0 y := by
  intro n
  induction n with
  | zero =>
    intro x hx
    have e : x = [] := List.length_eq_zero_iff.mp (by omega)
    subst e; rfl
  | succ n ih =>
    intro x hx
    cases x with
    | nil => rfl
    | cons c x =>
      have key : p <+: (c :: x) ++ y → p <+: c :: x := fun h => by
        rcases Nat.lt_or_ge (c :: x).length p.length with hl | hl
        · exfalso
          obtain ⟨z, hz⟩ := h
          have h1 : (p ++ z)[(c :: x).length]? = p[(c :: x).length]? := List.getElem?_append_left hl
          rw [hz, List.getElem?_append_right (Nat.le_refl _), Nat.sub_self] at h1
          cases hy0 : y with
          | nil =>
            rw [hy0] at h1
            have h2 : p[(c :: x).length]? = none := by rw [← h1]; rfl
            rw [List.getElem?_eq_none_iff] at h2
            omega
          | cons f t =>
            rw [hy0] at h1 hy
            have h2 : p[(c :: x).length]? = some f := by rw [← h1]; rfl
            exact hy f rfl (List.mem_of_getElem? h2)
        · exact List.prefix_of_prefix_length_le h ⟨y, rfl⟩ hl
      by_cases h : p <+: c :: x
      · have h2 : p <+: (c :: x) ++ y := h.trans ⟨y, rfl⟩
        rw [rgo_hit q hp h2, rgo_hit q hp h]
        have hl := h.length_le
        rw [List.drop_append_of_le_length hl, ih _ (by
          have : 1 ≤ p.length := List.length_pos_iff.mpr hp
          rw [List.length_drop]; omega), List.append_assoc]
      · have h2 : ¬ p <+: c :: (x ++ y) := fun hh => h (key hh)
        show rgo p q 0 (c :: (x ++ y)) = _
        rw [rgo_miss q h2, rgo_miss q h, ih x (by simp at hx; omega)]; rfl
/-! figure by figure: the parts of a canonical text and of a numeral -/
def hun (m d c : Nat) : List Nat := rp_ m 77 ++ (rp_ d 68 ++ rp_ c 67)
def ten (l x : Nat) : List Nat := rp_ l 76 ++ rp_ x 88
def unt (v i : Nat) : List Nat := rp_ v 86 ++ rp_ i 73
theorem canon_parts (n : Nat) : canon n = rp_ (n / 1000) 77 ++ (hun 0 (n / 500 % 2) (n / 100 % 5) ++ (ten (n / 50 % 2) (n / 10 % 5) ++ unt (n / 5 % 2) (n % 5))) := by
  unfold canon word7 hun ten unt
  simp
theorem numeral_parts (n : Nat) : numeral n = rp_ (n / 1000) 77 ++ (digit 67 68 77 (n / 100 % 10) ++ (digit 88 76 67 (n / 10 % 10) ++ digit 73 86 88 (n % 10))) := by
  unfold numeral
  simp
theorem rep2 (p q p' q' x : List Nat) : repP [(p, q), (p', q')] x = repL p' q' (repL p q x) := rfl
theorem free2 {p q p' q' : List Nat} {e e' : Nat} {r r' : List Nat} (hp : p = e :: r) (hp' : p' = e' :: r') {w : List Nat} (h : e ∉ w) (h' : e' ∉ w) (x : List Nat) : repP [(p, q), (p', q')] (w ++ x) = w ++ repP [(p, q), (p', q')] x := by
  show rgo p' q' 0 (rgo p q 0 (w ++ x)) = w ++ rgo p' q' 0 (rgo p q 0 x)
  rw [rgo_free q hp w x h, rgo_free q' hp' w _ h']
theorem cross2 {p q p' q' : List Nat} (hp : p ≠ []) (hp' : p' ≠ []) {y : List Nat} (hy : ∀ f, y.head? = some f → f ∉ p) (hy' : repP [(p, q), (p', q')] y = y ∧ repL p q y = y ∧ ∀ f, y.head? = some f → f ∉ p') (x : List Nat) :
    repP [(p, q), (p', q')] (x ++ y) = repP [(p, q), (p', q')] x ++ y := by
  have e1 : repL p' q' y = y := by
    have h := hy'.1
    rw [rep2, hy'.2.1] at h
    exact h
  show rgo p' q' 0 (rgo p q 0 (x ++ y)) = rgo p' q' 0 (rgo p q 0 x) ++ y
  have e2 : rgo p q 0 y = y := hy'.2.1
  have e3 : rgo p' q' 0 y = y := e1
  rw [rgo_cross q hp hy x.length x (Nat.le_refl _), e2, rgo_cross q' hp' hy'.2.2 _ _ (Nat.le_refl _), e3]
theorem below {P : Nat → Bool} (n : Nat) (h : (List.range n).all P = true) {k : Nat} (hk : k < n) : P k = true := List.all_eq_true.mp h k (List.mem_range.mpr hk)
theorem below2 {P : Nat → Nat → Bool} (n m : Nat) (h : ((List.range n).all fun a => (List.range m).all (P a)) = true) {a b : Nat} (ha : a < n) (hb : b < m) : P a b = true := below m (below n h ha) hb
abbrev A12 : List (List Nat × List Nat) := [([86, 73, 73, 73, 73], [73, 88]), ([73, 73, 73, 73], [73, 86])]
abbrev A34 : List (List Nat × List Nat) := [([76, 88, 88, 88, 88], [88, 67]), ([88, 88, 88, 88], [88, 76])]
abbrev A56 : List (List Nat × List Nat) := [([68, 67, 67, 67, 67], [67, 77]), ([67, 67, 67, 67], [67, 68])]
theorem short_canon (n : Nat) : repP short (canon n) = numeral n := by
  have hu : ∀ k, k < 10 → repP A12 (unt (k / 5) (k % 5)) = digit 73 86 88 k := fun k hk => by
    have h := below (P := fun k => repP A12 (unt (k / 5) (k % 5)) == digit 73 86 88 k) 10 (by decide +kernel) hk
    exact eq_of_beq h
  have ht : ∀ a b, a < 10 → b < 10 → repP A34 (ten (a / 5) (a % 5) ++ digit 73 86 88 b) = digit 88 76 67 a ++ digit 73 86 88 b := fun a b ha hb => by
    have h := below2 (P := fun a b => repP A34 (ten (a / 5) (a % 5) ++ digit 73 86 88 b) == digit 88 76 67 a ++ digit 73 86 88 b) 10 10 (by decide +kernel) ha hb
    exact eq_of_beq h
  have hh : ∀ k, k < 10 → repP A56 (hun 0 (k / 5) (k % 5)) = digit 67 68 77 k := fun k hk => by
    have h := below (P := fun k => repP A56 (hun 0 (k / 5) (k % 5)) == digit 67 68 77 k) 10 (by decide +kernel) hk
    exact eq_of_beq h
  have hr : ∀ a b, a < 10 → b < 10 → repP A56 (digit 88 76 67 a ++ digit 73 86 88 b) = digit 88 76 67 a ++ digit 73 86 88 b ∧ repL [68, 67, 67, 67, 67] [67, 77] (digit 88 76 67 a ++ digit 73 86 88 b) = digit 88 76 67 a ++ digit 73 86 88 b ∧ (∀ f, (digit 88 76 67 a ++ digit 73 86 88 b).head? = some f → f ≠ 67 ∧ f ≠ 68) := fun a b ha hb => by
    have h := below2 (P := fun a b => (repP A56 (digit 88 76 67 a ++ digit 73 86 88 b) == digit 88 76 67 a ++ digit 73 86 88 b) && (repL [68, 67, 67, 67, 67] [67, 77] (digit 88 76 67 a ++ digit 73 86 88 b) == digit 88 76 67 a ++ digit 73 86 88 b) && (match (digit 88 76 67 a ++ digit 73 86 88 b).head? with | some f => f != 67 && f != 68 | none => true)) 10 10 (by decide +kernel) ha hb
    simp only [Bool.and_eq_true] at h
    refine ⟨eq_of_beq h.1.1, eq_of_beq h.1.2, fun f hf => ?_⟩
    have h3 := h.2
    rw [hf] at h3
    simpa using h3
  have e : repP short (canon n) = repP A56 (repP A34 (repP A12 (canon n))) := rfl
  have hd1 : n / 5 % 2 = n % 10 / 5 ∧ n % 5 = n % 10 % 5 := by omega
  have hd2 : n / 50 % 2 = n / 10 % 10 / 5 ∧ n / 10 % 5 = n / 10 % 10 % 5 := by omega
  have hd3 : n / 500 % 2 = n / 100 % 10 / 5 ∧ n / 100 % 5 = n / 100 % 10 % 5 := by omega
  rw [e, canon_parts, numeral_parts, hd1.1, hd1.2, hd2.1, hd2.2, hd3.1, hd3.2]
  have q1 : n % 10 < 10 := by omega
  have q2 : n / 10 % 10 < 10 := by omega
  have q3 : n / 100 % 10 < 10 := by omega
  generalize n % 10 = u at *
  generalize n / 10 % 10 = t at *
  generalize n / 100 % 10 = h at *
  generalize n / 1000 = m at *
  have w1 : rp_ m 77 ++ (hun 0 (h / 5) (h % 5) ++ (ten (t / 5) (t % 5) ++ unt (u / 5) (u % 5))) = (rp_ m 77 ++ (hun 0 (h / 5) (h % 5) ++ ten (t / 5) (t % 5))) ++ unt (u / 5) (u % 5) := by simp
  rw [w1, free2 rfl rfl (by simp [hun, ten]) (by simp [hun, ten]), hu u q1]
  have w2 : (rp_ m 77 ++ (hun 0 (h / 5) (h % 5) ++ ten (t / 5) (t % 5))) ++ digit 73 86 88 u = (rp_ m 77 ++ hun 0 (h / 5) (h % 5)) ++ (ten (t / 5) (t % 5) ++ digit 73 86 88 u) := by simp
  rw [w2, free2 rfl rfl (by simp [hun]) (by simp [hun]), ht t u q2 q1]
  rw [List.append_assoc, free2 rfl rfl (by simp) (by simp)]
  have hr' := hr t u q2 q1
  rw [cross2 (by simp) (by simp) (fun f hf => by have := hr'.2.2 f hf; simp [this.1, this.2]) ⟨hr'.1, hr'.2.1, fun f hf => by have := hr'.2.2 f hf; simp [this.1]⟩, hh h q3]
abbrev B12 : List (List Nat × List Nat) := [([67, 68], [67, 67, 67, 67]), ([67, 77], [68, 67, 67, 67, 67])]
abbrev B34 : List (List Nat × List Nat) := [([88, 76], [88, 88, 88, 88]), ([88, 67], [76, 88, 88, 88, 88])]
abbrev B56 : List (List Nat × List Nat) := [([73, 86], [73, 73, 73, 73]), ([73, 88], [86, 73, 73, 73, 73])]
theorem short_back (n : Nat) (hn : n < 1000) : repP shortT (numeral n) = canon n := by
  have hu : ∀ k, k < 10 → repP B56 (digit 73 86 88 k) = unt (k / 5) (k % 5) := fun k hk => by
    have h := below (P := fun k => repP B56 (digit 73 86 88 k) == unt (k / 5) (k % 5)) 10 (by decide +kernel) hk
    exact eq_of_beq h
  have ht : ∀ a b, a < 10 → b < 10 → repP B34 (digit 88 76 67 a ++ digit 73 86 88 b) = ten (a / 5) (a % 5) ++ digit 73 86 88 b := fun a b ha hb => by
    have h := below2 (P := fun a b => repP B34 (digit 88 76 67 a ++ digit 73 86 88 b) == ten (a / 5) (a % 5) ++ digit 73 86 88 b) 10 10 (by decide +kernel) ha hb
    exact eq_of_beq h
  have hh : ∀ k, k < 10 → repP B12 (digit 67 68 77 k) = hun 0 (k / 5) (k % 5) := fun k hk => by
    have h := below (P := fun k => repP B12 (digit 67 68 77 k) == hun 0 (k / 5) (k % 5)) 10 (by decide +kernel) hk
    exact eq_of_beq h
  have hr : ∀ a b, a < 10 → b < 10 → repP B12 (digit 88 76 67 a ++ digit 73 86 88 b) = digit 88 76 67 a ++ digit 73 86 88 b ∧ repL [67, 68] [67, 67, 67, 67] (digit 88 76 67 a ++ digit 73 86 88 b) = digit 88 76 67 a ++ digit 73 86 88 b ∧ (∀ f, (digit 88 76 67 a ++ digit 73 86 88 b).head? = some f → f ≠ 67 ∧ f ≠ 68 ∧ f ≠ 77) := fun a b ha hb => by
    have h := below2 (P := fun a b => (repP B12 (digit 88 76 67 a ++ digit 73 86 88 b) == digit 88 76 67 a ++ digit 73 86 88 b) && (repL [67, 68] [67, 67, 67, 67] (digit 88 76 67 a ++ digit 73 86 88 b) == digit 88 76 67 a ++ digit 73 86 88 b) && (match (digit 88 76 67 a ++ digit 73 86 88 b).head? with | some f => f != 67 && (f != 68 && f != 77) | none => true)) 10 10 (by decide +kernel) ha hb
    simp only [Bool.and_eq_true] at h
    refine ⟨eq_of_beq h.1.1, eq_of_beq h.1.2, fun f hf => ?_⟩
    have h3 := h.2
    rw [hf] at h3
    simpa using h3
  have e : repP shortT (numeral n) = repP B56 (repP B34 (repP B12 (numeral n))) := rfl
  have hd1 : n / 5 % 2 = n % 10 / 5 ∧ n % 5 = n % 10 % 5 := by omega
  have hd2 : n / 50 % 2 = n / 10 % 10 / 5 ∧ n / 10 % 5 = n / 10 % 10 % 5 := by omega
  have hd3 : n / 500 % 2 = n / 100 % 10 / 5 ∧ n / 100 % 5 = n / 100 % 10 % 5 := by omega
  have hm : n / 1000 = 0 := by omega
  rw [e, canon_parts, numeral_parts, hd1.1, hd1.2, hd2.1, hd2.2, hd3.1, hd3.2, hm]
  have q1 : n % 10 < 10 := by omega
  have q2 : n / 10 % 10 < 10 := by omega
  have q3 : n / 100 % 10 < 10 := by omega
  generalize n % 10 = u at *
  generalize n / 10 % 10 = t at *
  generalize n / 100 % 10 = h at *
  have hr' := hr t u q2 q1
  rw [show rp_ 0 77 = [] from rfl, List.nil_append, List.nil_append]
  rw [cross2 (by simp) (by simp) (fun f hf => by have := hr'.2.2 f hf; simp [this.1, this.2]) ⟨hr'.1, hr'.2.1, fun f hf => by have := hr'.2.2 f hf; simp [this.1, this.2]⟩, hh h q3]
  rw [free2 rfl rfl (by simp [hun]) (by simp [hun]), ht t u q2 q1]
  have w1 : hun 0 (h / 5) (h % 5) ++ (ten (t / 5) (t % 5) ++ digit 73 86 88 u) = (hun 0 (h / 5) (h % 5) ++ ten (t / 5) (t % 5)) ++ digit 73 86 88 u := by simp
  rw [w1, free2 rfl rfl (by simp [hun, ten]) (by simp [hun, ten]), hu u q1]
  simp
/-! tenfold, and the table -/
abbrev five : List (List Nat × List Nat) := [([67], [77]), ([76], [68]), ([88], [67]), ([86], [76]), ([73], [88])]
abbrev fiveT : List (List Nat × List Nat) := [([73], [88]), ([86], [76]), ([88], [67]), ([76], [68]), ([67], [77])]
theorem five_append (ps : List (List Nat × List Nat)) (h : ∀ p ∈ ps, p.1 = [p.1.headD 0]) (x y : List Nat) : repP ps (x ++ y) = repP ps x ++ repP ps y := by
  rw [repP_single ps h (x ++ y), List.flatMap_append, ← repP_single ps h x, ← repP_single ps h y]
theorem tenfold (n : Nat) (hn : n < 400) : repP five (numeral n) = numeral (10 * n) := by
  have hs : ∀ p ∈ five, p.1 = [p.1.headD 0] := by decide
  have h1 : ∀ k, k < 4 → repP five (digit 67 68 77 k) = rp_ k 77 := fun k hk => eq_of_beq (below (P := fun k => repP five (digit 67 68 77 k) == rp_ k 77) 4 (by decide +kernel) hk)
  have h2 : ∀ k, k < 10 → repP five (digit 88 76 67 k) = digit 67 68 77 k := fun k hk => eq_of_beq (below (P := fun k => repP five (digit 88 76 67 k) == digit 67 68 77 k) 10 (by decide +kernel) hk)
  have h3 : ∀ k, k < 10 → repP five (digit 73 86 88 k) = digit 88 76 67 k := fun k hk => eq_of_beq (below (P := fun k => repP five (digit 73 86 88 k) == digit 88 76 67 k) 10 (by decide +kernel) hk)
  have e0 : n / 1000 = 0 := by omega
  have e1 : 10 * n / 1000 = n / 100 % 10 := by omega
  have e2 : 10 * n / 100 % 10 = n / 10 % 10 := by omega
  have e3 : 10 * n / 10 % 10 = n % 10 := by omega
  have e4 : 10 * n % 10 = 0 := by omega
  rw [numeral_parts n, numeral_parts (10 * n), e0, e1, e2, e3, e4, show rp_ 0 77 = [] from rfl, List.nil_append, five_append _ hs, five_append _ hs, h1 _ (by omega), h2 _ (by omega), h3 _ (by omega)]
  simp [digit]
def tbl (c : Nat) : Nat := if c = 73 then 77 else if c = 86 then 68 else if c = 88 then 77 else if c = 76 then 68 else 77
abbrev isR (c : Nat) : Prop := c = 73 ∨ c = 86 ∨ c = 88 ∨ c = 76 ∨ c = 67
theorem tabled {x : List Nat} (hx : ∀ c ∈ x, isR c) : repP fiveT x = x.map tbl := by
  rw [repP_single fiveT (by decide) x, flatMap_mem (g := fun c => [tbl c]) fun c hc => ?_]
  · induction x with
    | nil => rfl
    | cons c t ih => rw [List.flatMap_cons, ih fun d hd => hx d (.tail _ hd)]; rfl
  · rcases hx c hc with rfl | rfl | rfl | rfl | rfl <;> decide +kernel
theorem digit_mem {a b c k e : Nat} (h : e ∈ digit a b c k) : e = a ∨ e = b ∨ e = c := by
  unfold digit at h
  rcases Nat.lt_or_ge k 10 with hk | hk
  · have : k = 0 ∨ k = 1 ∨ k = 2 ∨ k = 3 ∨ k = 4 ∨ k = 5 ∨ k = 6 ∨ k = 7 ∨ k = 8 ∨ k = 9 := by omega
    rcases this with rfl | rfl | rfl | rfl | rfl | rfl | rfl | rfl | rfl | rfl <;> simp at h <;> omega
  · rw [List.getD_eq_getElem?_getD, List.getElem?_eq_none (by simpa using hk)] at h
    cases h
theorem digit_small {a b c k e : Nat} (hk : k < 4) (h : e ∈ digit a b c k) : e = a := by
  have : k = 0 ∨ k = 1 ∨ k = 2 ∨ k = 3 := by omega
  rcases this with rfl | rfl | rfl | rfl <;> simp [digit] at h <;> omega
theorem numeral_letters (n : Nat) (hn : n < 400) : ∀ c ∈ numeral n, isR c := fun c hc => by
  rw [numeral_parts, List.mem_append, List.mem_append, List.mem_append] at hc
  rcases hc with h | h | h | h
  · have : n / 1000 = 0 := by omega
    rw [this] at h
    cases h
  · have := digit_small (by omega) h
    omega
  · have := digit_mem h
    omega
  · have := digit_mem h
    omega
theorem digit_length (a b c k : Nat) : (digit a b c k).length ≤ 4 := by
  unfold digit
  rcases Nat.lt_or_ge k 10 with hk | hk
  · have : k = 0 ∨ k = 1 ∨ k = 2 ∨ k = 3 ∨ k = 4 ∨ k = 5 ∨ k = 6 ∨ k = 7 ∨ k = 8 ∨ k = 9 := by omega
    rcases this with rfl | rfl | rfl | rfl | rfl | rfl | rfl | rfl | rfl | rfl <;> simp
  · rw [List.getD_eq_getElem?_getD, List.getElem?_eq_none (by simpa using hk)]; simp
theorem numeral_length (n : Nat) (hn : n < 4000) : (numeral n).length ≤ 15 := by
  rw [numeral_parts, List.length_append, List.length_append, List.length_append, List.length_replicate]
  have := digit_length 67 68 77 (n / 100 % 10)
  have := digit_length 88 76 67 (n / 10 % 10)
  have := digit_length 73 86 88 (n % 10)
  omega
theorem canon_length (n : Nat) (hn : n < 4000) : (canon n).length ≤ 20 := by
  unfold canon word7
  simp only [List.length_append, List.length_replicate]
  omega
theorem calm10 : True := by k_with_none; w_top off; trivial
end
end Mine

namespace Mine
section
open PySem PySem.W PyProof.Rows
set_option maxHeartbeats 2000000
theorem addI {prog : Program} {w : World} {A : Around} {E : Value → Shared → Prop} {s : Shared} {Q : Value → Shared → Prop} {x y : Str} {a b : List Nat} {t u : Tok} {k : Nat} (hx : x = S a) (hy : y = S b) (ha : a.length ≤ k) (hb : b.length ≤ 4) (hk : k ≤ 4000)
    (h : ∀ t' tk, (a ++ b).length ≤ k + 4 → Q (.str (S (a ++ b)) t') { s with toks := tk }) :
    wpAny (model prog w) A (inplaceOp .Add (.str x t) (.str y u)) Q E s := by
  subst hx hy
  have e : sizeLine = 16777216 := by decide
  exact iadd_str (fun t' tk => by rw [S_append]; exact h t' tk (by rw [List.length_append]; omega)) (by rw [S_length, S_length]; omega)
theorem fold_rep (c : Nat) : ∀ (k : Nat) (acc : Array Nat), (List.replicate k #[c]).foldl (· ++ ·) acc = acc ++ (List.replicate k c).toArray
  | 0, acc => by simp
  | k + 1, acc => by
    rw [List.replicate_succ, List.foldl_cons, fold_rep c k, List.replicate_succ]
    apply Array.toList_inj.mp
    simp
theorem mul_one (c : Nat) (n : Int) : Txt.mul (S [c]) n = S (rp_ n.toNat c) := by
  unfold Txt.mul
  split
  · rename_i h
    have e : n.toNat = 0 := by omega
    rw [e]; rfl
  · split
    · rename_i h h2
      have e : n.toNat = 1 := by
        simp [Str.length] at h2
        omega
      rw [e]; rfl
    · show (⟨(List.replicate n.toNat (S [c]).cps).foldl (· ++ ·) #[]⟩ : Str) = _
      have e : (S [c]).cps = #[c] := rfl
      rw [e, fold_rep]
      simp
theorem mulM {n : Int} : Txt.mul (Str.ofString "M") n = S (rp_ n.toNat 77) := by
  rw [show Str.ofString "M" = S [77] from by decide +kernel, mul_one]
theorem rp_len {n : Int} (h : n.fdiv 1000 ≤ 3) : (rp_ (n.fdiv 1000).toNat 77).length ≤ 3 := by rw [List.length_replicate]; omega
theorem digs (ys : List Str) (a b c : Nat) (h : ys = [S [], S [a], S [a, a], S [a, a, a], S [a, b], S [b], S [b, a], S [b, a, a], S [b, a, a, a], S [a, c]]) (k : Nat) : ys.getD k Str.empty = S (digit a b c k) := by
  subst h
  unfold digit
  rcases Nat.lt_or_ge k 10 with hk | hk
  · have : k = 0 ∨ k = 1 ∨ k = 2 ∨ k = 3 ∨ k = 4 ∨ k = 5 ∨ k = 6 ∨ k = 7 ∨ k = 8 ∨ k = 9 := by omega
    rcases this with rfl | rfl | rfl | rfl | rfl | rfl | rfl | rfl | rfl | rfl <;> rfl
  · rw [List.getD_eq_getElem?_getD, List.getElem?_eq_none (by simpa using hk), List.getD_eq_getElem?_getD, List.getElem?_eq_none (by simpa using hk)]; rfl
theorem dig1 (k : Nat) : ([Str.ofString "", Str.ofString "C", Str.ofString "CC", Str.ofString "CCC", Str.ofString "CD", Str.ofString "D", Str.ofString "DC", Str.ofString "DCC", Str.ofString "DCCC", Str.ofString "CM"] : List Str).getD k Str.empty = S (digit 67 68 77 k) := digs _ _ _ _ (by decide +kernel) k
theorem dig2 (k : Nat) : ([Str.ofString "", Str.ofString "X", Str.ofString "XX", Str.ofString "XXX", Str.ofString "XL", Str.ofString "L", Str.ofString "LX", Str.ofString "LXX", Str.ofString "LXXX", Str.ofString "XC"] : List Str).getD k Str.empty = S (digit 88 76 67 k) := digs _ _ _ _ (by decide +kernel) k
theorem dig3 (k : Nat) : ([Str.ofString "", Str.ofString "I", Str.ofString "II", Str.ofString "III", Str.ofString "IV", Str.ofString "V", Str.ofString "VI", Str.ofString "VII", Str.ofString "VIII", Str.ofString "IX"] : List Str).getD k Str.empty = S (digit 73 86 88 k) := digs _ _ _ _ (by decide +kernel) k
local macro_rules | `(tactic| walk_at "inplaceOp Add str str") => `(tactic| (k_here; (refine' addI ?zx ?zy ?za ?zb ?zk ?_; (case zx => first | exact mulM | exact rfl); (case zy => first | exact dig1 _ | exact dig2 _ | exact dig3 _); (case za => first | assumption | exact rp_len (by assumption)); (case zb => exact digit_length _ _ _ _); (case zk => decide)); intro _ _ hL9))
theorem numeral_int {n : Int} (h : 0 ≤ n) : rp_ (n.fdiv 1000).toNat 77 ++ digit 67 68 77 ((n.fdiv 100).fmod 10).toNat ++ digit 88 76 67 ((n.fdiv 10).fmod 10).toNat ++ digit 73 86 88 (n.fmod 10).toNat = numeral n.toNat := by
  unfold numeral
  have e1 : (n.fdiv 1000).toNat = n.toNat / 1000 := by rw [Int.fdiv_eq_ediv_of_nonneg _ (by decide)]; omega
  have e2 : ((n.fdiv 100).fmod 10).toNat = n.toNat / 100 % 10 := by rw [Int.fdiv_eq_ediv_of_nonneg _ (by decide), Int.fmod_eq_emod_of_nonneg _ (by decide)]; omega
  have e3 : ((n.fdiv 10).fmod 10).toNat = n.toNat / 10 % 10 := by rw [Int.fdiv_eq_ediv_of_nonneg _ (by decide), Int.fmod_eq_emod_of_nonneg _ (by decide)]; omega
  have e4 : (n.fmod 10).toNat = n.toNat % 10 := by rw [Int.fmod_eq_emod_of_nonneg _ (by decide)]; omega
  rw [e1, e2, e3, e4]
theorem numeralC {w : World} {mean : ExcName → Option Value} {mg mb : Str → Option Value} {dp un : Nat} {gd : Option (List Code)} {cn : Str} {cs : Scope} {a : Addr} {ccd : Value} {cl : List (Str × Addr)} {outer : List Env} {A₀ : Around} {base h₀ : Heap} {L : Addr} {m : Str → Option Value} {news : List (Addr × Obj)} {s : Shared} {Q E : Value → Shared → Prop}
    {n : Int} {tx : Tok}
    (B : Below A₀ base outer h₀) (F : Fr h₀ L s.heap m) (X : (hd02.heap_39 w.params).In h₀) (N : News h₀ L s.heap news) (T : Top hd02.view_39 (looseW hd02.view_39 []) mean mg mb h₀) (hk : cs.kind = .function)
    (hn0 : 0 ≤ n) (hn1 : n < 4000) (hd : dp + 3 < recursionLimit) (hu : un + 32 < cLine)
    (hret : ∀ (t : Tok) (h' : Heap) (tk' : Nat), Fr h₀ L h' m → News h₀ L h' news → Q (.str (S (numeral n.toNat)) t) { s with heap := h', toks := tk' }) :
    wpAny (model PySem.Challenge.rw_ph0179_02.row.prog w) (ktrTop dp un gd cn cs L a ccd cl outer) (call (.ref 28) [.int n tx]) Q E s := by
  revert X; k_fill; intro X
  have hq0 : 0 ≤ n.fdiv 1000 := by rw [Int.fdiv_eq_ediv_of_nonneg _ (by decide)]; omega
  have hq1 : n.fdiv 1000 ≤ 3 := by rw [Int.fdiv_eq_ediv_of_nonneg _ (by decide)]; omega
  refine wpAny_call ?_
  k_dflt (refine' code_defB ?k1 ?k2 ?k3 ?k4 ?k5 ?kA ?kF ?kK ?k6 ?k7 ?k8 ?k9 ?kB ?_ ?c2 ?c3 ?c4 ?c5; (case kA => exact rfl); (case kF => exact rfl); (case kK => assumption); (case k1 => k_asm); (case k2 => k_asm); (case k3 => k_asm); (case k4 => k_asm); (case k5 => k_asm); (case k6 => k_is); (case k7 => k_is); (case k8 => ktr_room); (case k9 => exact BindsTo.of_eq rfl); (case c5 => decide); (case kB => exact locs rfl); (case c2 => exact rfl); (case c3 => exact rfl); (case c4 => exact rfl); k_whole; intro g' L' h' FG' F' N' B' X' T' NG'; (try dsimp only); (try k_lift B'); (try k_fold))
  k_steps
  rename Fr g' L' _ _ => F9
  exact cb_retS (Q := Q) hret (by rw [numeral_int hn0]) (by assumption) (NG'.grown F9.keep)
theorem calm11 : True := by k_with_none; w_top off; trivial
end
end Mine

namespace Mine
section
open PySem PySem.W PyProof.Rows
set_option maxHeartbeats 2000000
local macro_rules | `(tactic| walk_at "idle") => `(tactic| skip)
local macro_rules | `(tactic| walk_at "idle") => `(tactic| skip)
theorem allNe {news : List (Addr × Obj)} {d c : Nat} (h : ∀ p ∈ news, p.1 < d) (hc : d ≤ c) : ∀ p ∈ news, p.1 ≠ c := fun p hp e => by have e2 : @Eq Nat p.1 c := e; have e3 : @LT.lt Nat _ p.1 d := h p hp; omega
local macro_rules | `(tactic| k_all) => `(tactic| (refine' allNe ?qA ?qB; (case qA => assumption); (case qB => ((try dsimp only); omega))))
local macro_rules | `(tactic| walk_at "eval ListComp") => `(tactic| (k_here; k_dflt (refine ListComp_S (_F₀ := by k_asm) (by with_unfolding_all rfl) (by decide) (by rfl) (by decide) (by rfl) ?_)))
local macro_rules | `(tactic| walk_at "call builtin:str.index") => `(tactic| (k_here; first
  | (refine' SC.index (i := 0) (rest := []) ?zo ?_; (case zo => decide +kernel))
  | (refine' SC.index (i := 1) (rest := []) ?zo ?_; (case zo => decide +kernel))
  | (refine' SC.index (i := 2) (rest := []) ?zo ?_; (case zo => decide +kernel))
  | (refine' SC.index (i := 3) (rest := []) ?zo ?_; (case zo => decide +kernel))
  | (refine' SC.index (i := 4) (rest := []) ?zo ?_; (case zo => decide +kernel))))
theorem join_one (cs : List Nat) (g : Nat → Nat) : Str.join (.ofString "") (cs.map fun c => S [g c]) = S (cs.map g) := by
  induction cs with
  | nil => rfl
  | cons c t ih =>
    cases t with
    | nil => rfl
    | cons d r =>
      show S [g c] ++ Str.ofString "" ++ Str.join (Str.ofString "") ((d :: r).map fun c => S [g c]) = _
      rw [ih, show Str.ofString "" = S [] from rfl, S_append, S_append]
      rfl
theorem table {w : World} {mean : ExcName → Option Value} {mg mb : Str → Option Value} {dp un : Nat} {gd : Option (List Code)} {cn : Str} {cs : Scope} {a : Addr} {ccd : Value} {cl : List (Str × Addr)} {outer : List Env} {A₀ : Around} {base h₀ : Heap} {L : Addr} {m : Str → Option Value} {news : List (Addr × Obj)} {s : Shared} {Q E : Value → Shared → Prop}
    {x : List Nat} {tx tb ta : Tok}
    (B : Below A₀ base outer h₀) (F : Fr h₀ L s.heap m) (X : (hd02.heap_39 w.params).In h₀) (N : News h₀ L s.heap news) (T : Top hd02.view_39 (looseW hd02.view_39 []) mean mg mb h₀) (hk : cs.kind = .function)
    (hx : ∀ c ∈ x, isR c) (hn : x.length ≤ 1000) (hd : dp + 3 < recursionLimit) (hu : un + 32 < cLine)
    (hret : ∀ (t : Tok) (h' : Heap) (tk' : Nat), Fr h₀ L h' m → News h₀ L h' news → Q (.str (S (x.map tbl)) t) { s with heap := h', toks := tk' }) :
    wpAny (model PySem.Challenge.rw_ph0179_02.row.prog w) (ktrTop dp un gd cn cs L a ccd cl outer) (call (.ref 33) [.str (S x) tx, .str (Str.ofString "IVXLC") tb, .str (Str.ofString "MDMDM") ta]) Q E s := by
  revert X; k_fill; intro X
  have hx0 := hx
  refine wpAny_call ?_
  refine' code_defC ?k1 ?k2 ?k3 ?k4 ?k5 ?kA ?kF ?kK ?k6 ?k7 ?k8 ?k9 ?kB ?kD ?_ ?c2 ?c3 ?c4
  case kA => exact rfl
  case kF => exact rfl
  case kK => assumption
  case k1 => k_asm
  case k2 => k_asm
  case k3 => k_asm
  case k4 => k_asm
  case k5 => k_asm
  case k6 => k_is
  case k7 => k_is
  case k8 => ktr_room
  case k9 => exact BindsTo.of_eq rfl
  case kB => exact rfl
  case kD => decide +kernel
  case c2 => exact rfl
  case c3 => exact rfl
  case c4 => exact rfl
  k_whole
  intro g' L' h' tk' cells' FG' F' N' Y' B' X' T' l1
  (try k_lt l1)
  k_cells Y'
  (try simp only [List.cons_append, List.nil_append] at N')
  (try dsimp only)
  (try k_lift B')
  (try k_fold)
  k_steps
  refine ⟨_, _, _, rfl, rfl, by assumption, by assumption, ?_, ?_⟩
  · rw [S_length]; exact Nat.le_trans hn (by decide)
  rintro s₂ ⟨hh, rfl⟩
  refine rest_S (fun c => S [tbl c]) ?_ ?_
  · intro c t I oI C oC D m₂ ys h tk E' hc hC hx F' N' off ne
    have hcl : isR c := hx0 c (by rw [S_cps] at hc; exact hc)
    rcases hcl with rfl | rfl | rfl | rfl | rfl
    · rw [show (⟨#[73]⟩ : Str) = Str.ofString "I" from by decide +kernel] at hx
      k_steps
      exact ⟨_, _, _, rfl, by assumption, by assumption, off, trivial, rfl, _, congrArg (fun z => Value.str z _) (by decide +kernel)⟩
    · rw [show (⟨#[86]⟩ : Str) = Str.ofString "V" from by decide +kernel] at hx
      k_steps
      exact ⟨_, _, _, rfl, by assumption, by assumption, off, trivial, rfl, _, congrArg (fun z => Value.str z _) (by decide +kernel)⟩
    · rw [show (⟨#[88]⟩ : Str) = Str.ofString "X" from by decide +kernel] at hx
      k_steps
      exact ⟨_, _, _, rfl, by assumption, by assumption, off, trivial, rfl, _, congrArg (fun z => Value.str z _) (by decide +kernel)⟩
    · rw [show (⟨#[76]⟩ : Str) = Str.ofString "L" from by decide +kernel] at hx
      k_steps
      exact ⟨_, _, _, rfl, by assumption, by assumption, off, trivial, rfl, _, congrArg (fun z => Value.str z _) (by decide +kernel)⟩
    · rw [show (⟨#[67]⟩ : Str) = Str.ofString "C" from by decide +kernel] at hx
      k_steps
      exact ⟨_, _, _, rfl, by assumption, by assumption, off, trivial, rfl, _, congrArg (fun z => Value.str z _) (by decide +kernel)⟩
  · intro ys hys D h tk F' N' off
    dsimp only
    k_steps
    rw [S_cps] at hys
    refine join_list (News.isList N' (List.Mem.head _)) hys ?_ ?_
    · have e1 : ((x.map fun c => S [tbl c]).map (·.length)).sum = x.length := by
        rw [List.map_map]
        generalize x = l
        induction l with
        | nil => rfl
        | cons c t ih => rw [List.map_cons, List.sum_cons, ih, List.length_cons]; show 1 + t.length = _; omega
      rw [e1]
      have e2 : (Str.ofString "").length = 0 := by decide +kernel
      rw [e2]
      omega
    intro t9 k9
    dsimp only
    k_steps
    exact cb_retS (Q := Q) hret (by rw [tj, join_one]) (by assumption) (newsTail (newsTail (newsTail (by assumption))))
theorem calm12 : True := by k_with_none; w_top off; trivial
end
end Mine

namespace Mine
section
open PySem PySem.W PyProof.Rows
set_option maxHeartbeats 2000000
theorem all_ok : (∀ p ∈ grown ++ short, p.1 ≠ [] ∧ p.1.all (· < 256) = true) ∧ (∀ p ∈ shortT ++ grownT, p.1 ≠ [] ∧ p.1.all (· < 256) = true) ∧ (∀ p ∈ ([73, 73], [73]) :: (grown ++ short), p.1 ≠ [] ∧ p.1.all (· < 256) = true) ∧ (∀ p ∈ shortT, p.1 ≠ [] ∧ p.1.all (· < 256) = true) ∧ (∀ p ∈ five, p.1 ≠ [] ∧ p.1.all (· < 256) = true) ∧ (∀ p ∈ fiveT, p.1 ≠ [] ∧ p.1.all (· < 256) = true) := by
  refine ⟨?_, ?_, ?_, ?_, ?_, ?_⟩ <;> decide
theorem all_q : (∀ p ∈ grown ++ short, 1 ≤ p.2.length ∧ p.2.length ≤ 10) ∧ (∀ p ∈ shortT, 1 ≤ p.2.length ∧ p.2.length ≤ 10) ∧ (∀ p ∈ grownT, 1 ≤ p.2.length ∧ p.2.length ≤ 10) ∧ (∀ p ∈ ([73, 73], [73]) :: (grown ++ short), 1 ≤ p.2.length ∧ p.2.length ≤ 10) ∧ (∀ p ∈ five, 1 ≤ p.2.length ∧ p.2.length ≤ 10) ∧ (∀ p ∈ fiveT, 1 ≤ p.2.length ∧ p.2.length ≤ 10) := by
  refine ⟨?_, ?_, ?_, ?_, ?_, ?_⟩ <;> decide
theorem repP_append (ps qs : List (List Nat × List Nat)) (x : List Nat) : repP (ps ++ qs) x = repP qs (repP ps x) := by unfold repP; rw [List.foldl_append]
theorem repOk_append : ∀ (ps qs : List (List Nat × List Nat)) (x : List Nat), (∀ p ∈ ps, p.1 ≠ [] ∧ p.1.all (· < 256) = true) → RepOk (S x) (laidOut ps) → RepOk (S (repP ps x)) (laidOut qs) → RepOk (S x) (laidOut (ps ++ qs))
  | [], _, _, _, _, h => h
  | p :: r, qs, x, hp, h, h' => by
    have e := one x _ _ p.1 p.2 rfl rfl (hp p (.head _)).2 (hp p (.head _)).1
    obtain ⟨h1, h2, h3, h4⟩ : RepOk (S x) (S p.1 :: S p.2 :: laidOut r) := h
    rw [e] at h4
    refine repOk_two h1 h2 h3 e ?_
    exact repOk_append r qs _ (fun q hq => hp q (.tail _ hq)) h4 h'
theorem room {ps : List (List Nat × List Nat)} {x : List Nat} {k : Nat} (h : ∀ p ∈ ps, p.1 ≠ [] ∧ p.1.all (· < 256) = true) (hq : ∀ p ∈ ps, 1 ≤ p.2.length ∧ p.2.length ≤ 10) (hx : x.length ≤ k) (hk : ps.foldl (fun n p => p.2.length * n) k + 2 ≤ 1048576) : RepOk (S x) (laidOut ps) := by
  refine repOk_laid ps x h hq ?_
  have mono : ∀ (r : List (List Nat × List Nat)) (a b : Nat), a ≤ b → r.foldl (fun n p => p.2.length * n) a ≤ r.foldl (fun n p => p.2.length * n) b := by
    intro r
    induction r with
    | nil => intro a b h; exact h
    | cons p r ih => intro a b h; exact ih _ _ (Nat.mul_le_mul_left _ h)
  have := mono ps _ _ hx
  omega
section
variable {w : World} {mean : ExcName → Option Value} {mg mb : Str → Option Value} {dp un : Nat} {gd : Option (List Code)} {cn : Str} {cs : Scope} {a : Addr} {ccd : Value} {cl : List (Str × Addr)} {outer : List Env} {A₀ : Around} {base h₀ : Heap} {L : Addr} {m : Str → Option Value} {news : List (Addr × Obj)} {s : Shared} {Q E : Value → Shared → Prop}
    {x : Str} {tx : Tok}
/-- replace by a row of written pairs -/
theorem rpP {ps : List (List Nat × List Nat)} {l : List Nat} {vs : List Value} {ys : List Str}
    (B : Below A₀ base outer h₀) (F : Fr h₀ L s.heap m) (X : (hd02.heap_39 w.params).In h₀) (N : News h₀ L s.heap news) (T : Top hd02.view_39 (looseW hd02.view_39 []) mean mg mb h₀) (hk : cs.kind = .function)
    (e : x = S l) (hv : StrsAre vs ys) (hy : ys = laidOut ps) (hp : ∀ p ∈ ps, p.1 ≠ [] ∧ p.1.all (· < 256) = true) (hok : RepOk (S l) (laidOut ps)) (hlen : ys.length ≤ 26) (hd : dp + 1 < recursionLimit) (hu : un + 8 < cLine)
    (hret : ∀ (t : Tok) (h' : Heap) (tk' : Nat), Fr h₀ L h' m → News h₀ L h' news → Q (.str (S (repP ps l)) t) { s with heap := h', toks := tk' }) :
    wpAny (model PySem.Challenge.rw_ph0179_02.row.prog w) (ktrTop dp un gd cn cs L a ccd cl outer) (call (.ref 21) (.str x tx :: vs)) Q E s := by
  subst e hy
  exact rp B F X N T hk hv hok hlen hd hu fun t h' tk' F' N' => by rw [rep_laid ps l hp]; exact hret t h' tk' F' N'
end
/-! the law's own calls, by their numbers -/
theorem okA (n : Nat) (h : n < 400) : RepOk (S (rp_ n 73)) (laidOut (grown ++ short)) ∧ repP (grown ++ short) (rp_ n 73) = numeral n :=
  ⟨room (k := 400) all_ok.1 all_q.1 (by rw [List.length_replicate]; omega) (by decide), by rw [repP_append, grown_ones, short_canon]⟩
theorem okB (n : Nat) (h : n < 400) : RepOk (S (numeral n)) (laidOut (shortT ++ grownT)) ∧ repP (shortT ++ grownT) (numeral n) = rp_ n 73 := by
  have e := short_back n (by omega)
  refine ⟨repOk_append _ _ _ all_ok.2.2.2.1 (room (k := 15) all_ok.2.2.2.1 all_q.2.1 (numeral_length n (by omega)) (by decide)) ?_, by rw [repP_append, e, down_canon]⟩
  rw [e]
  exact room (k := 20) (fun p hp => all_ok.2.1 p (List.mem_append_right _ hp)) all_q.2.2.1 (canon_length n (by omega)) (by decide)
theorem okC (n : Nat) (h : n < 400) : RepOk (S (rp_ n 73)) (laidOut (([73, 73], [73]) :: (grown ++ short))) ∧ repP (([73, 73], [73]) :: (grown ++ short)) (rp_ n 73) = numeral ((n + 1) / 2) := by
  refine ⟨room (k := 400) all_ok.2.2.1 all_q.2.2.2.1 (by rw [List.length_replicate]; omega) (by decide), ?_⟩
  show repP (grown ++ short) (repL [73, 73] [73] (rp_ n 73)) = _
  rw [half, repP_append, grown_ones, short_canon]
theorem okD (n : Nat) (h : n < 400) : RepOk (S (numeral n)) (laidOut shortT) ∧ repP shortT (numeral n) = canon n :=
  ⟨room (k := 15) all_ok.2.2.2.1 all_q.2.1 (numeral_length n (by omega)) (by decide), short_back n (by omega)⟩
theorem okE (n : Nat) (h : n < 400) : RepOk (S (numeral n)) (laidOut five) ∧ repP five (numeral n) = numeral (10 * n) :=
  ⟨room (k := 15) all_ok.2.2.2.2.1 all_q.2.2.2.2.1 (numeral_length n (by omega)) (by decide), tenfold n h⟩
theorem okF (n : Nat) (h : n < 400) : RepOk (S (numeral n)) (laidOut fiveT) ∧ repP fiveT (numeral n) = (numeral n).map tbl :=
  ⟨room (k := 15) all_ok.2.2.2.2.2 all_q.2.2.2.2.2 (numeral_length n (by omega)) (by decide), tabled (numeral_letters n h)⟩
theorem okG (m d c l x v i : Nat) (h : m + d + c + l + x + v + i ≤ 100) : RepOk (S (word7 m d c l x v i)) (laidOut (grown ++ short)) ∧ repP (grown ++ short) (word7 m d c l x v i) = numeral (1000 * m + 500 * d + 100 * c + 50 * l + 10 * x + 5 * v + i) := by
  refine ⟨room (k := 100) all_ok.1 all_q.1 ?_ (by decide), by rw [repP_append, grown_word, short_canon]⟩
  unfold word7
  simp only [List.length_append, List.length_replicate]
  omega
theorem calm13 : True := by k_with_none; w_top off; trivial
end
end Mine

namespace Mine
section
open PySem PySem.W PyProof.Rows PySem.Calls
set_option maxHeartbeats 1000000
/-! enumerate over a tuple -/
theorem enumT_new (l : Addr) (items : Array Value) (n : Nat) (dct : Option Addr) (sl : Array (Option Value)) :
    Meets (Builtin.«enumerate.__new__» ⟨[.type "enumerate", .ref l], []⟩) (fun _ R s => s.heap.get? l = some { cls := .type "tuple", dict := dct, data := .seq items n, slots := sl } ∧
      R (.ok (.ret (.ref (s.heap.push { cls := .type "tuple_iterator", data := .fields #[.ref l, .int 0 0] }).objs.size)))
        { s with heap := (s.heap.push { cls := .type "tuple_iterator", data := .fields #[.ref l, .int 0 0] }).push { cls := .type "enumerate", data := .fields #[.none, .bool false, .ref s.heap.objs.size, rawInt 0, .none, .none] } }) :=
  .of_wp fun prog w A R s h => by
    obtain ⟨hp, g, d, tk, os⟩ := s
    obtain ⟨hl, h⟩ := h
    have hsub := sub_enumerate
    have hL : IsTup (Shared.heap ⟨hp, g, d, tk, os⟩) l items := ⟨_, hl, rfl, n, rfl⟩
    wp_walk using PySem.AutoSeq1.wpAny_loadPart' hl
    refine wpAny_stack_any fun st => wpAny_pure ?_
    split
    · rename_i c _ _ _ _ _
      cases (c == Value.type "enumerate")
      · wp_walk using PySem.AutoSeq1.wpAny_loadPart' hl, iter_tuple hL
        exact ⟨_, rfl, h⟩
      · wp_walk using PySem.AutoSeq1.wpAny_loadPart' hl, iter_tuple hL
        exact ⟨_, rfl, h⟩
    · wp_walk using PySem.AutoSeq1.wpAny_loadPart' hl, iter_tuple hL
      exact ⟨_, rfl, h⟩
section
variable {prog : Program} {w : World} {A : Around} {E : Value → Shared → Prop} {s : Shared}
theorem enumT_call {l : Addr} {items : Array Value} {Q : Value → Shared → Prop} (hL : IsTup s.heap l items)
    (h : ∀ h', IsEnum h' (s.heap.objs.size + 1) s.heap.objs.size 0 .none → IsTupIter h' s.heap.objs.size l 0 → h'.objs.size = s.heap.objs.size + 2 →
      (∀ b o, s.heap.get? b = some o → h'.get? b = some o) → Q (.ref (s.heap.objs.size + 1)) { s with heap := h' }) :
    wpAny (model prog w) A (call (.type "enumerate") [.ref l]) Q E s := by
  obtain ⟨⟨c, dct, dt, sl⟩, hl, hc, n, hd⟩ := hL
  replace hc : c = .type "tuple" := hc
  replace hd : dt = .seq items n := hd
  subst hc hd
  refine callType_new F.called_enumerate (by decide) (F.typeCall_enumerate_1 _) (F.newCall_enumerate_1 _) (fun obj => F.args_object_init_2 obj _) F.entry_enumerate_new
    (enumT_new l items n dct sl) ⟨hl, ?_⟩
  generalize hH : s.heap.push { cls := .type "tuple_iterator", data := .fields #[.ref l, .int 0 0] } = H
  have hz : H.objs.size = s.heap.objs.size + 1 := by rw [← hH, Heap.size_push]
  have hi : H.get? s.heap.objs.size = some { cls := .type "tuple_iterator", data := .fields #[.ref l, .int 0 0] } := by rw [← hH]; exact Heap.get?_push_size _ rfl
  have hk : ∀ b o, s.heap.get? b = some o → H.get? b = some o := fun b o e => by rw [← hH]; exact Heap.get?_push_of_some _ e
  show _ ∧ _
  rw [hz]
  have he : IsEnum (H.push { cls := .type "enumerate", data := .fields #[.none, .bool false, .ref s.heap.objs.size, rawInt 0, .none, .none] }) (s.heap.objs.size + 1) s.heap.objs.size 0 .none := by
    have := Heap.get?_push_size H (o := { cls := .type "enumerate", data := .fields #[.none, .bool false, .ref s.heap.objs.size, rawInt 0, .none, .none] }) rfl
    rw [hz] at this
    exact this
  exact ⟨⟨_, he, rfl⟩, h _ he ⟨_, Heap.get?_push_of_some _ hi, rfl, rfl⟩ (by rw [Heap.size_push, hz]) fun b o x => Heap.get?_push_of_some _ (hk b o x)⟩
theorem nextOfT {it t : Addr} {i : Nat} {items} {x : Value} {Q : Value → Shared → Prop} (hit : IsTupIter s.heap it t i)
    (ht : IsTup s.heap t items) (hx : items[i]? = some x)
    (hQ : ∀ h', IsTupIter h' it t (i + 1) → Heap.SameBut it s.heap h' → Q x { s with heap := h' }) :
    wpAny (model prog w) A (Builtin.SmallTypes.nextOf (.ref it)) Q E s := by
  obtain ⟨o, ho, hc, hd⟩ := id hit
  obtain ⟨ol, hol, _, nl, hdl⟩ := ht
  unfold Builtin.SmallTypes.nextOf
  refine wpAny_bind (wpAny_callSpecial?_slot (name := Str.ofString "__next__") hit.typeIs slot_tupleiter_next
    (wpAny_call_entry slot_tupleiter_next hit.typeIs entry_tupleiter_next ?_ (args_tupleiter_next _)))
  show wpAny _ _ (field (.ref it) 0 >>= _) _ _ s
  refine wpAny_bind (wpAny_field ho hd (x := .ref t) rfl ?_)
  show wpAny _ _ (if (Value.ref t == Value.none) = true then _ else _) _ _ s
  rw [if_neg (show ¬ ((Value.ref t == Value.none) = true) from Bool.false_ne_true)]
  show wpAny _ _ (field (.ref it) 1 >>= _) _ _ s
  refine wpAny_bind (wpAny_field ho hd (x := .int i 0) rfl ?_)
  show wpAny _ _ (seqItems? (.ref t) >>= _) _ _ s
  refine wpAny_bind (wpAny_seqItems hol hdl ?_)
  simp only [Int.toNat_natCast, hx]
  refine wpAny_bind (wpAny_setField ho hd (by simp) (wpAny_pure ⟨x, rfl, wpAny_pure (hQ _ ?_ (Heap.SameBut.update ..))⟩))
  exact ⟨_, Heap.get?_update_self _ ho (Obj.isFreed_of_fields (Obj.data_mapFields hd _)), (Obj.cls_mapFields ..).trans hc, by
    rw [Obj.data_mapFields hd]; simp [rawInt]⟩
theorem nextOfT_end {it t : Addr} {i : Nat} {items} {Q : Value → Shared → Prop} (hh : A.handled = none)
    (hit : IsTupIter s.heap it t i) (ht : IsTup s.heap t items) (hx : items[i]? = none)
    (hE : ∀ h' e, Heap.ExtBut it s.heap h' → (∃ o, h'.get? e = some o ∧ o.cls = .type "StopIteration") → E (.ref e) { s with heap := h' }) :
    wpAny (model prog w) A (Builtin.SmallTypes.nextOf (.ref it)) Q E s := by
  obtain ⟨o, ho, hc, hd⟩ := id hit
  obtain ⟨ol, hol, _, nl, hdl⟩ := ht
  unfold Builtin.SmallTypes.nextOf
  refine wpAny_bind (wpAny_callSpecial?_slot (name := Str.ofString "__next__") hit.typeIs slot_tupleiter_next
    (wpAny_call_entry slot_tupleiter_next hit.typeIs entry_tupleiter_next ?_ (args_tupleiter_next _)))
  show wpAny _ _ (field (.ref it) 0 >>= _) _ _ s
  refine wpAny_bind (wpAny_field ho hd (x := .ref t) rfl ?_)
  show wpAny _ _ (if (Value.ref t == Value.none) = true then _ else _) _ _ s
  rw [if_neg (show ¬ ((Value.ref t == Value.none) = true) from Bool.false_ne_true)]
  show wpAny _ _ (field (.ref it) 1 >>= _) _ _ s
  refine wpAny_bind (wpAny_field ho hd (x := .int i 0) rfl ?_)
  show wpAny _ _ (seqItems? (.ref t) >>= _) _ _ s
  refine wpAny_bind (wpAny_seqItems hol hdl ?_)
  simp only [Int.toNat_natCast, hx]
  refine wpAny_bind (wpAny_rule (wpAny_bind (wpAny_setField ho hd (by simp) ?_)))
  show wpAny _ _ (newExc (.type "StopIteration") [] >>= _) _ _ _
  refine wpAny_bind ?_
  simp only [newExc, newTuple]
  refine wpAny_bind (wpAny_newObj_type ?_ (by size_fits))
  refine wpAny_bind (m := firstArgMember _ _) (wpAny_of_eq (a := Value.none) (by first | rfl | (simp only [firstArgMember]; rfl)) ?_)
  refine wpAny_newObj_type ?_ (by size_fits)
  simp only [raiseNew]
  refine wpAny_bind (wpAny_handled ?_)
  first | rw [show A.in1.handled = none from hh] | rw [hh]
  refine wpAny_bind (wpAny_pure (wpAny_throw ?_))
  exact hE _ _ (((Heap.SameBut.update ..).extBut.push _).push _) ⟨_, Heap.get?_push_size _ rfl, rfl⟩
end
theorem calm14 : True := by k_with_none; w_top off; trivial
end
end Mine

namespace Mine
section
open PySem PySem.W PyProof.Rows PySem.Calls PyProof.Rows.LCg
set_option maxHeartbeats 1000000
theorem drawsT {prog : Program} {w : World} {A : Around} (hh : A.handled = none) (it t : Addr) (hne : t ≠ it) (items : Array Value) :
    Draws prog w A it [it, t] items.size (fun i v => items[i]? = some v) (fun i h => IsTupIter h it t i ∧ IsTup h t items) where
  live := fun i h st => let ⟨o, e, _⟩ := st.1; ⟨o, e⟩
  frame := fun i h h' st k => by
    obtain ⟨⟨o, e, r⟩, ⟨o2, e2, r2⟩⟩ := st
    exact ⟨⟨o, k it (by simp) _ e, r⟩, ⟨o2, k t (by simp) _ e2, r2⟩⟩
  item := fun i s Q E hi st hQ => by
    obtain ⟨hit, ht⟩ := st
    have hx : items[i]? = some items[i] := Array.getElem?_eq_getElem hi
    refine nextOfT hit ht hx fun h' hit' hs' => ?_
    obtain ⟨o2, e2, r2⟩ := ht
    exact hQ _ h' s.toks hx ⟨hit', o2, hs'.extBut t o2 hne e2, r2⟩ hs'
  done := fun s Q E st hE => nextOfT_end hh st.1 st.2 (Array.getElem?_eq_none (Nat.le_refl _)) hE
section
variable {prog : Program} {w : World} {A : Around} {E : Value → Shared → Prop} {s : Shared} {h₀ : Heap} {L : Addr} {m : Str → Option Value} {env : Env}
/-- a turn's end: the value, the ledger as it was -/
def TurnEndE (h₀ : Heap) (L : Addr) (m : Str → Option Value) (s₁ : Shared) (base : List (Addr × Obj)) (v : Int) (y : Value) (s₂ : Shared) : Prop :=
  ∃ h' tk t, s₂ = { s₁ with heap := h', toks := tk } ∧ y = .int v t ∧ Fr h₀ L h' m ∧ News h₀ L h' base
def TurnsE (prog : Program) (w : World) (A : Around) (h₀ : Heap) (L : Addr) (m : Str → Option Value) (env : Env) (elt : PySem.Expr) (a b : Str) (scope : Scope) (cl : List (Str × Addr)) (s : Shared) (g : Nat → Int) (items : Array Value) (news : List (Addr × Obj)) : Prop :=
  ∀ (i : Nat) (v : Value) (t : Tok) e oE it oI C oC D ys m₂ h tk (E' : Value → Shared → Prop), items[i]? = some v → NsObj oC m₂ → m₂ a = some (.int i t) → m₂ b = some v → Fr h₀ L h m → News h₀ L h ((e, oE) :: (it, oI) :: (C, oC) :: (D, lst ys) :: news) →
    wpAny (model prog w) A (eval elt (compEnvC scope cl C env)) (TurnEndE h₀ L m { s with heap := h, toks := tk } ((e, oE) :: (it, oI) :: (C, oC) :: (D, lst ys) :: news) (g i)) E' { s with heap := h, toks := tk }
theorem block_E {elt iter : PySem.Expr} {a b : Str} {pa pb tp : Pos} {kk : Nat} {scope : Scope} {cl : List (Str × Addr)} {pos : Pos} {s₂ : Shared} {I it l : Addr} {items : Array Value} {g : Nat → Int} {news : List (Addr × Obj)}
    {RR : Value → Addr → Result → Shared → Prop}
    (hh : A.handled = none) (hsz : items.size ≤ sizeLine) (hIi : I ≠ it)
    (he : IsEnum s₂.heap I it 0 .none) (hit : IsTupIter s₂.heap it l 0) (hl : ∀ h, Fr h₀ L h m → News h₀ L h news → IsTup h l items) (hlI : l ≠ I) (hli : l ≠ it)
    (hcell : ∀ y ∈ scope.names, y.2 ≠ .cell) (hkind : scope.kind = .function) (hxa : scope.names.lookup a = some .local) (hxb : scope.names.lookup b = some .local) (hab : ¬ a = b)
    (F : Fr h₀ L s₂.heap m) (N : News h₀ L s₂.heap news) (hIL : L ≠ I) (hiL : L ≠ it) (hI₀ : h₀.get? I = none) (hi₀ : h₀.get? it = none) (offI : ∀ p ∈ news, p.1 ≠ I) (offi : ∀ p ∈ news, p.1 ≠ it)
    (R : TurnsE prog w A h₀ L m env elt a b scope cl s₂ g items news)
    (hRR : ∀ D C h tk m' ys, IntsAre ys ((List.range items.size).map g) → Fr h₀ L h m → News h₀ L h ((D, lst ys) :: news) → (∀ p ∈ news, p.1 ≠ D) → h.Ns C m' → h₀.get? C = none → h₀.get? D = none → C ≠ L → D ≠ L → C ≠ D → (∀ p ∈ news, p.1 ≠ C) → RR (.ref D) C (.ok .next) { s₂ with heap := h, toks := tk }) :
    wpAny (model prog w) A (newList []) (fun acc s₃ => wpAny (model prog w) A (newFunctionEnv scope env.globals cl [] env.qual none .none (some env)) (fun cenv s₄ =>
      codeAny (model prog w) A (.compStart (.ListComp elt [⟨.Tuple [.Name a pa, .Name b pb] kk tp, iter, [], 0⟩] scope pos) 0 (.ref I) acc { cenv with scope := relabel scope env }) (RR acc cenv.locals) s₄) E s₃) E s₂ := by
  refine wpAny_newObj_type (wpAny_newFunctionEnv hcell (by intro y hy; simp at hy) (fun h₁ hns₁ hsb₁ => ?_) hkind)
  dsimp only at hns₁ hsb₁ ⊢
  generalize hH2 : s₂.heap.push { cls := .type "list", dict := none, data := .seq ([] : List Value).toArray } = H2 at hns₁ hsb₁ ⊢
  have hC : H2.objs.size = s₂.heap.objs.size + 1 := by rw [← hH2, Heap.size_push]
  have hDC : s₂.heap.objs.size ≠ H2.objs.size := by rw [hC]; exact Nat.ne_of_lt (Nat.lt_succ_self _)
  have below : ∀ b, b < s₂.heap.objs.size → b ≠ H2.objs.size ∧ b ≠ s₂.heap.objs.size := fun b hb => ⟨by rw [hC]; exact Nat.ne_of_lt (Nat.lt_succ_of_lt hb), Nat.ne_of_lt hb⟩
  have hIlt : I < s₂.heap.objs.size := Heap.lt_size he
  have hilt : it < s₂.heap.objs.size := by obtain ⟨_, y, _⟩ := hit; exact Heap.lt_size y
  have old : ∀ b o, s₂.heap.get? b = some o → h₁.get? b = some o := fun b o e => hsb₁.extBut b o (below b (Heap.lt_size e)).1 (Heap.get?_push_of_some _ (hH2 ▸ Heap.get?_push_of_some _ e))
  have hacc : h₁.get? s₂.heap.objs.size = some (lst []) := hsb₁.extBut _ _ hDC (Heap.get?_push_of_some _ (hH2 ▸ Heap.get?_push_size _ rfl))
  have he₁ : IsEnum h₁ I it 0 .none := old _ _ he
  have hit₁ : IsTupIter h₁ it l 0 := by obtain ⟨o, y, r⟩ := hit; exact ⟨o, old _ _ y, r⟩
  have fresh : ∀ a, s₂.heap.objs.size ≤ a → s₂.heap.get? a = none := fun a ha => by
    cases e : s₂.heap.get? a with
    | none => rfl
    | some o' => exact absurd (Heap.lt_size e) (Nat.not_lt.mpr ha)
  have fresh₀ : ∀ a, s₂.heap.objs.size ≤ a → h₀.get? a = none := fun a ha => by
    cases e : h₀.get? a with
    | none => rfl
    | some o' => have := F.keep a o' e; rw [fresh a ha] at this; cases this
  have hD₀ : h₀.get? s₂.heap.objs.size = none := fresh₀ _ (Nat.le_refl _)
  have hC₀ : h₀.get? H2.objs.size = none := fresh₀ _ (by rw [hC]; exact Nat.le_succ _)
  have hLlt : L < s₂.heap.objs.size := F.ns.lt
  have hDL : s₂.heap.objs.size ≠ L := Ne.symm (below L hLlt).2
  have hCL : H2.objs.size ≠ L := Ne.symm (below L hLlt).1
  have hCI : I ≠ H2.objs.size := (below I hIlt).1
  have hDI : I ≠ s₂.heap.objs.size := (below I hIlt).2
  have hCi : it ≠ H2.objs.size := (below it hilt).1
  have hDi : it ≠ s₂.heap.objs.size := (below it hilt).2
  have offC : ∀ p ∈ news, p.1 ≠ H2.objs.size := fun p hp => (below _ (Heap.lt_size (N p hp).1)).1
  have offD : ∀ p ∈ news, p.1 ≠ s₂.heap.objs.size := fun p hp => (below _ (Heap.lt_size (N p hp).1)).2
  have W := WalksT.enumerateD (drawsT (prog := prog) (w := w) (A := A.in1) hh it l hli items) I hIi (by simp [hIi, Ne.symm hlI]) (by simp)
  have loop : ∀ s₃ : Shared, s₃ = { s₂ with heap := h₁, toks := s₂.toks + ([] : List (Str × Value)).length } →
      codeAny (model prog w) A (.compLoop (.ListComp elt [⟨.Tuple [.Name a pa, .Name b pb] kk tp, iter, [], 0⟩] scope pos) 0 (.ref I) (.ref s₂.heap.objs.size) (compEnvC scope cl H2.objs.size env))
        (RR (.ref s₂.heap.objs.size) H2.objs.size) s₃ := by
    rintro s₃ rfl
    refine kcp_loop
      (fun k s' => ∃ h' tk i ys m', s' = { s₂ with heap := h', toks := tk } ∧ i ≤ items.size ∧ k = items.size + 1 - i ∧ ys.length = i ∧ IntsAre ys ((List.range i).map g) ∧ (∃ old, IsEnum h' I it i old) ∧ IsTupIter h' it l i ∧ Fr h₀ L h' m ∧ h'.Ns H2.objs.size m' ∧
        News h₀ L h' ((s₂.heap.objs.size, lst ys) :: news)) ?_ (items.size + 1)
      ⟨h₁, _, 0, [], _, rfl, Nat.zero_le _, rfl, rfl, .nil, ⟨_, he₁⟩, hit₁, F.keeps old, hns₁, fun p hp => ?_⟩
    · rintro k s' ⟨h', tk, i, ys, m', rfl, hi, rfl, hyl, hys, hE', hit', F', hn', N'⟩
      have N'' : News h₀ L h' news := fun q hq => N' q (List.mem_cons_of_mem _ hq)
      have ht' := hl h' F' N''
      by_cases hlt : i < items.size
      · refine W.item i _ _ _ hlt ⟨hE', hit', ht'⟩ fun T vals h₂ tk₂ hPt hTle hT hMid hk₂ => ?_
        have hTwr := W.apart _ _ _ hMid
        refine W.go _ _ _ i T _ _ _ hMid fun h₃ hst₃ hk₃ => ?_
        obtain ⟨t, x, hx, rfl⟩ := hPt
        have hT₃ : h₃.IsTuple T #[.int i t, x] := by obtain ⟨o, y, r⟩ := hT; exact ⟨o, hk₃ T o hTwr y, r⟩
        have up₃ : ∀ c o, c ≠ I → c ≠ it → h'.get? c = some o → h₃.get? c = some o := fun c o h1 h2 e => hk₃ c o (by simp [h1, h2]) (hk₂ c o (by simp [h1, h2]) e)
        refine kcp_assign (env := compEnvC scope cl H2.objs.size env) hh hT₃ (lookup_relabel_local hxa) (lookup_relabel_local hxb) (by simp [compEnvC, relabel, hkind]) (hn'.at' fun o e => up₃ _ o (Ne.symm hCI) (Ne.symm hCi) e) fun h₄ tk₄ hn₄ hs₄ => ?_
        have up : ∀ c o, c ≠ I → c ≠ it → c ≠ H2.objs.size → h'.get? c = some o → h₄.get? c = some o := fun c o h1 h2 h3 e => hs₄ c o h3 (up₃ c o h1 h2 e)
        obtain ⟨⟨old', hI₃⟩, ⟨oi, hi₃, ri⟩, _⟩ := hst₃
        have hI₄ := hs₄ I _ hCI hI₃
        have hi₄ := hs₄ it _ hCi hi₃
        obtain ⟨oI, heI, hoI⟩ : ∃ oI : Obj, h₄.get? I = some oI ∧ ∀ h : Heap, h.get? I = some oI → ∃ old, IsEnum h I it ((i + 1 : Nat) : Int) old := ⟨_, hI₄, fun _ e => ⟨old', e⟩⟩
        obtain ⟨oC, heC, hoC⟩ := ns_obj hn₄
        have F₄ : Fr h₀ L h₄ m := ⟨F'.ns.at' fun o e => up _ o hIL hiL (Ne.symm hCL) e, fun c o e => up c o (fun q => by rw [q, hI₀] at e; cases e) (fun q => by rw [q, hi₀] at e; cases e) (fun q => by rw [q, hC₀] at e; cases e) (F'.keep c o e), F'.above⟩
        have N₄ : News h₀ L h₄ ((I, oI) :: (it, oi) :: (H2.objs.size, oC) :: (s₂.heap.objs.size, lst ys) :: news) := fun q hq => by
          rcases List.mem_cons.mp hq with rfl | hq
          · exact ⟨heI, Ne.symm hIL, hI₀⟩
          · rcases List.mem_cons.mp hq with rfl | hq
            · exact ⟨hi₄, Ne.symm hiL, hi₀⟩
            · rcases List.mem_cons.mp hq with rfl | hq
              · exact ⟨heC, hCL, hC₀⟩
              · have z := N' q hq
                refine ⟨up _ _ ?_ ?_ ?_ z.1, z.2⟩
                · rcases List.mem_cons.mp hq with rfl | hq
                  · exact Ne.symm hDI
                  · exact offI q hq
                · rcases List.mem_cons.mp hq with rfl | hq
                  · exact Ne.symm hDi
                  · exact offi q hq
                · rcases List.mem_cons.mp hq with rfl | hq
                  · exact hDC
                  · exact offC q hq
        refine wpAny_mono (R i x t I oI it oi H2.objs.size oC s₂.heap.objs.size ys _ h₄ _ _ hx hoC (by simp [hab]) (by simp) F₄ N₄) (fun y s₅ h₅ => ?_) fun _ _ e => e
        obtain ⟨h₅, tk₅, t₅, rfl, rfl, F₅, N₅⟩ := h₅
        have zI := (N₅ (I, oI) List.mem_cons_self).1
        have zi := (N₅ (it, oi) (List.mem_cons_of_mem _ List.mem_cons_self)).1
        have zC := (N₅ (H2.objs.size, oC) (List.mem_cons_of_mem _ (List.mem_cons_of_mem _ List.mem_cons_self))).1
        have zD := (N₅ (s₂.heap.objs.size, lst ys) (List.mem_cons_of_mem _ (List.mem_cons_of_mem _ (List.mem_cons_of_mem _ List.mem_cons_self)))).1
        have N₅' : News h₀ L h₅ news := fun q hq => N₅ q (List.mem_cons_of_mem _ (List.mem_cons_of_mem _ (List.mem_cons_of_mem _ (List.mem_cons_of_mem _ hq))))
        refine append_at (hsz := by show ys.toArray.size ≤ sizeLine; rw [List.size_toArray, hyl]; exact Nat.le_trans hi hsz) zD fun h₆ hs₆ hD₆ => ?_
        refine ⟨items.size + 1 - (i + 1), by omega, h₆, tk₅, i + 1, ys ++ [.int (g i) t₅], _, rfl, hlt, rfl, by rw [List.length_append, List.length_singleton, hyl], ?_, hoI h₆ (hs₆.extBut I oI hDI zI), ⟨oi, hs₆.extBut it oi hDi zi, ri⟩, F₅.change hs₆ hDL hD₀,
          (hoC.ns zC).sameBut hs₆ (Ne.symm hDC), fun q hq => ?_⟩
        · rw [List.range_succ, List.map_append]
          exact IntsAre.append hys (.cons (g i) t₅ .nil)
        rcases List.mem_cons.mp hq with rfl | hq
        · exact ⟨hD₆.trans (congrArg some (lst_snoc ys _)), hDL, hD₀⟩
        · exact ⟨hs₆.extBut _ _ (offD q hq) (N₅' q hq).1, (N₅' q hq).2⟩
      · have hin : i = items.size := Nat.le_antisymm hi (Nat.not_lt.mp hlt)
        subst hin
        refine W.done _ _ _ ⟨hE', hit', ht'⟩ fun h₂ tk₂ hk₂ => ?_
        have upd : ∀ c o, c ≠ I → c ≠ it → h'.get? c = some o → h₂.get? c = some o := fun c o h1 h2 e => hk₂ c o (by simp [h1, h2]) e
        refine hRR _ _ h₂ tk₂ _ ys hys ⟨F'.ns.at' fun o e => upd _ o hIL hiL e, fun c o e => upd c o (fun q => by rw [q, hI₀] at e; cases e) (fun q => by rw [q, hi₀] at e; cases e) (F'.keep c o e), F'.above⟩ (fun p hp => ⟨upd _ _ ?_ ?_ (N' p hp).1, (N' p hp).2⟩) offD (hn'.at' fun o e => upd _ o (Ne.symm hCI) (Ne.symm hCi) e) hC₀ hD₀ hCL hDL (Ne.symm hDC) offC
        · rcases List.mem_cons.mp hp with rfl | hp
          · exact Ne.symm hDI
          · exact offI p hp
        · rcases List.mem_cons.mp hp with rfl | hp
          · exact Ne.symm hDi
          · exact offi p hp
    · rcases List.mem_cons.mp hp with rfl | hp
      · exact ⟨hacc, hDL, hD₀⟩
      · exact ⟨old _ _ (N p hp).1, (N p hp).2⟩
  exact codeAny_compStart_list (loop _ rfl) (wpAny_pyIter_enum he₁ (loop _ rfl))
end
theorem calm15 : True := by k_with_none; w_top off; trivial
end
end Mine

namespace Mine
section
open PySem PySem.W PyProof.Rows PySem.Calls PyProof.Rows.LCg
set_option maxHeartbeats 1000000
theorem off1_of {D : Addr} : ∀ {l : List (Addr × Obj)}, (∀ p ∈ l, p.1 ≠ D) → Off1 D l
  | [], _ => trivial
  | p :: r, h => ⟨h p (.head _), off1_of fun q hq => h q (.tail _ hq)⟩
section
variable {prog : Program} {w : World} {A : Around} {E : Value → Shared → Prop} {s : Shared} {h₀ : Heap} {L : Addr} {m : Str → Option Value} {env : Env}
def SrcE (prog : Program) (w : World) (A : Around) (h₀ : Heap) (L : Addr) (m : Str → Option Value) (env : Env) (elt : PySem.Expr) (a b : Str) (scope : Scope) (cl : List (Str × Addr)) (Fin : Shared → List Value → List (Addr × Obj) → Prop) (xv : Value) (s₁ : Shared) : Prop :=
  ∃ (I it l : Addr) (items : Array Value) (g : Nat → Int) (news : List (Addr × Obj)), xv = .ref I ∧ A.handled = none ∧ Fr h₀ L s₁.heap m ∧ News h₀ L s₁.heap news ∧ IsEnum s₁.heap I it 0 .none ∧ IsTupIter s₁.heap it l 0 ∧
    (∀ h, Fr h₀ L h m → News h₀ L h news → IsTup h l items) ∧ I ≠ it ∧ l ≠ I ∧ l ≠ it ∧ L ≠ I ∧ L ≠ it ∧ h₀.get? I = none ∧ h₀.get? it = none ∧ (∀ p ∈ news, p.1 ≠ I) ∧ (∀ p ∈ news, p.1 ≠ it) ∧ items.size ≤ sizeLine ∧
    TurnsE prog w A h₀ L m env elt a b scope cl s₁ g items news ∧ (∀ ys, IntsAre ys ((List.range items.size).map g) → Fin s₁ ys news)
theorem enumT_src {elt : PySem.Expr} {a b : Str} {scope : Scope} {cl : List (Str × Addr)} {Fin : Shared → List Value → List (Addr × Obj) → Prop} {l : Addr} {items : Array Value} {news : List (Addr × Obj)} (g : Nat → Int)
    (hh : A.handled = none) (F : Fr h₀ L s.heap m) (N : News h₀ L s.heap news) (hl : ∀ h, Fr h₀ L h m → News h₀ L h news → IsTup h l items) (hsz : items.size ≤ sizeLine)
    (R : ∀ h, TurnsE prog w A h₀ L m env elt a b scope cl { s with heap := h } g items news) (fin : ∀ h ys, IntsAre ys ((List.range items.size).map g) → Fin { s with heap := h } ys news) :
    wpAny (model prog w) A (call (.type "enumerate") [.ref l]) (SrcE prog w A h₀ L m env elt a b scope cl Fin) E s := by
  have hls := hl _ F N
  have hlt : l < s.heap.objs.size := by obtain ⟨_, y, _⟩ := hls; exact Heap.lt_size y
  have hLs : L < s.heap.objs.size := F.ns.lt
  refine enumT_call hls fun h' he hit hsz' hk => ?_
  have F' : Fr h₀ L h' m := ⟨F.ns.keeps hk, fun b o e => hk b o (F.keep b o e), F.above⟩
  have N' : News h₀ L h' news := fun p hp => ⟨hk _ _ (N p hp).1, (N p hp).2⟩
  have hab : h₀.objs.size ≤ L := F.above
  exact ⟨_, _, l, items, g, news, rfl, hh, F', N', he, hit, hl, Nat.succ_ne_self _, Nat.ne_of_lt (Nat.lt_succ_of_lt hlt), Nat.ne_of_lt hlt, Nat.ne_of_lt (Nat.lt_succ_of_lt hLs), Nat.ne_of_lt hLs,
    Heap.get?_none_of_le (Nat.le_trans hab (Nat.le_of_lt (Nat.lt_succ_of_lt hLs))), Heap.get?_none_of_le (Nat.le_trans hab (Nat.le_of_lt hLs)),
    fun p hp => Nat.ne_of_lt (Nat.lt_succ_of_lt (Heap.lt_size (N p hp).1)), fun p hp => Nat.ne_of_lt (Heap.lt_size (N p hp).1), hsz, R h', fin h'⟩
theorem Assign_ListComp_E {elt iter : PySem.Expr} {x x₂ y : Str} {px px₂ tp py : Pos} {tk} {scope : Scope} {cl : List (Str × Addr)} {pos spos : Pos} {Q : Flow → Shared → Prop} (F₀ : Fr h₀ L s.heap m) (hLe : env.locals = L)
    (hsw : swapsWith (.ListComp elt [⟨.Tuple [.Name x px, .Name x₂ px₂] tk tp, iter, [], 0⟩] scope pos) (some (.Name y py)) spos.line env = pure true)
    (hclos : closureFor scope env = pure cl) (hcell : ∀ z ∈ scope.names, z.2 ≠ .cell) (hkind : scope.kind = .function)
    (hnames : ∀ z ∈ scope.names, z.2 = .local → scope.names.lookup z.1 = some .local) (hx : scope.names.lookup x = some .local) (hx₂ : scope.names.lookup x₂ = some .local) (hxx : ¬ x = x₂)
    (hy : env.kindOf y = some .local) (hp : (env.scope.kind == .class || (env.scope.kind == .module && env.locals != env.globals)) = false)
    (h : wpAny (model prog w) A (eval iter env) (SrcE prog w A h₀ L m env elt x x₂ scope cl (fun s₂ => FinA h₀ L m s₂ y Q)) E s)
    (hs : ∀ x, foldedSetIterable iter env x = pure x := by intro _; rfl) :
    wpAny (model prog w) A (exec (.Assign [.Name y py] (.ListComp elt [⟨.Tuple [.Name x px, .Name x₂ px₂] tk tp, iter, [], 0⟩] scope pos) spos) env) Q E s := by
  subst hLe
  rw [exec_Assign_Name_used _ _ _ _ hsw]
  refine wpAny_bind (wpAny_standAt (wpAny_bind ?_))
  show wpAny _ A (do let _ ← comprehension (.ListComp elt [⟨.Tuple [.Name x px, .Name x₂ px₂] tk tp, iter, [], 0⟩] scope pos) scope env _ (newList []) false (eval iter env) (some (assign (.Name y py) env))) _ _ s
  refine wpAny_bind (wpAny_mono (wpAny_comprehension_free (use := some (assign (.Name y py) env)) (Q := fun _ s' => Q .next s') rfl hs hclos hkind hnames
    (wpAny_mono h (fun xv s₁ h₁ => ?_) fun _ _ e => e)) (fun _ s' hq => wpAny_pure (wpAny_pure hq)) fun _ _ e => e)
  obtain ⟨I, it, l, items, g, news, rfl, hh, F, N, he, hit, hl, hIi, hlI, hli, hIL, hiL, hI₀, hi₀, offI, offi, hsz, R, fin⟩ := h₁
  refine wpAny_pyIter_enum he ?_
  refine block_E hh hsz hIi he hit hl hlI hli hcell hkind hx hx₂ hxx F N hIL hiL hI₀ hi₀ offI offi R ?_
  intro D C h' tk m' ys hys F' N' offD hn hC₀ hD₀ hCL hDL hCD offC
  show wpAny _ A (assign (.Name y py) env (.ref D)) _ _ _
  refine wpAny_assign_Name (wpAny_storeName_local hy F'.ns (fun h₂ hn₂ hs₂ => ?_) hp)
  have hL₀ : h₀.get? env.locals = none := Heap.get?_none_of_le F'.above
  have F₂ : Fr h₀ env.locals h₂ (fun z => if z = y then some (.ref D) else m z) := ⟨hn₂, fun b o e => hs₂.extBut b o (fun q => by rw [q, hL₀] at e; cases e) (F'.keep b o e), F'.above⟩
  refine ⟨m', hn.sameBut hs₂ hCL, fun h'' hs'' => fin ys hys D h'' _ (F₂.change hs'' hCL hC₀) (fun p hp => ?_) (off1_of offD)⟩
  have z : h₂.get? p.1 = some p.2 := hs₂.extBut _ _ (N' p hp).2.1 (N' p hp).1
  refine ⟨hs''.extBut _ _ ?_ z, (N' p hp).2⟩
  rcases List.mem_cons.mp hp with rfl | hp
  · exact Ne.symm hCD
  · exact offC p hp
end
theorem calm16 : True := by k_with_none; w_top off; trivial
end
end Mine

namespace Mine
section
open PySem PySem.W PyProof.Rows PySem.Calls
set_option maxHeartbeats 1000000
/-! lists of texts whose items are named by what they hold -/
theorem StrsAre_append : ∀ {vs ws : List Value} {xs ys : List Str}, StrsAre vs xs → StrsAre ws ys → StrsAre (vs ++ ws) (xs ++ ys)
  | _, _, _, _, .nil, h => h
  | _, _, _, _, .cons y t r, h => .cons y t (StrsAre_append r h)
theorem StrsAre_take : ∀ {vs : List Value} {xs : List Str} (n : Nat), StrsAre vs xs → StrsAre (vs.take n) (xs.take n)
  | _, _, 0, _ => by rw [List.take_zero, List.take_zero]; exact .nil
  | _, _, n + 1, .nil => .nil
  | _, _, n + 1, .cons y t r => .cons y t (StrsAre_take n r)
theorem pick12 (vs : List Value) (h : vs.length = 24) : (slicePick vs.toArray none (some 12) none).toList = vs.take 12 := by
  have e : (slicePick vs.toArray none (some 12) none).toList = (List.range 12).filterMap (vs[·]?) := by
    have : (sliceBounds none (some 12) none 24) = (0, 12, 1) := by decide
    simp [slicePick, h]
    rfl
  rw [e]
  match vs, h with
  | [a0,a1,a2,a3,a4,a5,a6,a7,a8,a9,a10,a11,a12,a13,a14,a15,a16,a17,a18,a19,a20,a21,a22,a23], _ => rfl
abbrev laidW : List Str := laidOut (grown ++ short)
abbrev laidT : List Str := laidOut (shortT ++ grownT)
abbrev laidH : List Str := laidOut shortT
theorem laidT_take : laidT.take 12 = laidH := by decide +kernel
theorem laidW_length : laidW.length = 24 := by decide +kernel
theorem laidT_length : laidT.length = 24 := by decide +kernel
theorem turn_texts : (rangeKs 0 24).map (fun k => laidW.getD (23 - k).toNat Str.empty) = laidT := by decide +kernel
section
variable {prog : Program} {w : World} {A : Around} {E : Value → Shared → Prop} {s : Shared} {h₀ : Heap} {L : Addr} {m : Str → Option Value} {news : List (Addr × Obj)}
theorem addTexts {l b : Addr} {vs ws : List Value} {xs ys zs : List Str} {Q : Value → Shared → Prop} (F : Fr h₀ L s.heap m) (N : News h₀ L s.heap news) (hl : s.heap.IsList l vs.toArray) (hb : s.heap.IsList b ws.toArray)
    (hx : StrsAre vs xs) (hy : StrsAre ws ys) (e : xs ++ ys = zs) (hz : zs.length ≤ 1000)
    (h : ∀ D us h', StrsAre us zs → Fr h₀ L h' m → News h₀ L h' ((D, listOf (List.toArray us) 0) :: news) → (∀ p ∈ news, p.1 < D) → Q (.ref D) { s with heap := h' }) :
    wpAny (model prog w) A (binaryOp .Add (.ref l) (.ref b)) Q E s := by
  subst e
  refine add_lists F N hl hb (fun h' F' N' => ?_) ?_
  · exact h _ _ h' (StrsAre_append hx hy) F' N' fun p hp => Heap.lt_size (N p hp).1
  · have := hx.length
    have := hy.length
    rw [List.length_append] at hz
    have : sizeLine = 16777216 := by decide
    omega
theorem pickTexts {value slice : PySem.Expr} {vs : List Value} {l : Addr} {vl vu vk : Value} {ops : List Value} {Q : Value → Shared → Prop}
    (F : Fr h₀ L s.heap m) (N : News h₀ L s.heap news) (hl : s.heap.IsList l vs.toArray) (hx : StrsAre vs laidT) (pl : IsPart vl none) (pu : IsPart vu (some 12)) (pk : IsPart vk none)
    (h : ∀ D us h', StrsAre us laidH → Fr h₀ L h' m → News h₀ L h' ((D, listOf (List.toArray us) 0) :: news) → (∀ p ∈ news, p.1 < D) → Q (.ref D) { s with heap := h' })
    (hs : subscripted slice false (.ref l) (.ref s.heap.objs.size) = operate ops (getItem (.ref l) (.ref s.heap.objs.size)))
    (ht : ∀ r, letTemporaryGo value (.ref l) r = pure ()) :
    wpAny (model prog w) A (subscriptTail value slice (.ref l) (.ref s.heap.objs.size)) Q E { s with heap := s.heap.push { cls := .type "slice", data := .fields #[vl, vu, vk] } } := by
  have hn : vs.length = 24 := hx.length.trans laidT_length
  have e := pick12 vs hn
  have h2 := StrsAre_take 12 hx
  rw [laidT_take] at h2
  refine slice_list3 F N hl pl pu pk (by decide) (fun h' F' N' => h _ (vs.take 12) h' h2 F' ?_ fun p hp => Nat.lt_succ_of_lt (Heap.lt_size (N p hp).1)) hs ht ?_
  · rw [← e, Array.toArray_toList]; exact N'
  · rw [List.size_toArray, hn]; decide
theorem starTexts {a : Addr} {o : Obj} {n : Nat} {vs : List Value} {xs : List Str} {Q : List Value → Shared → Prop} (F : Fr h₀ L s.heap m) (N : News h₀ L s.heap news) (ha : (a, o) ∈ news) (hc : o.cls = .type "list") (hd : o.data = .seq vs.toArray n) (hx : StrsAre vs xs) (hz : xs.length ≤ 1000)
    (h : ∀ h', Fr h₀ L h' m → News h₀ L h' news → Q vs { s with heap := h' }) : StarOf (model prog w) A E (.ref a) Q s := by
  refine star_seq F N ha hc hd (.inl rfl) (by simp) ?_ h
  have := hx.length
  have e : sizeLine = 16777216 := by decide
  rw [List.size_toArray]; omega
/-- letters times a number -/
theorem mulS {x : Str} {c : Nat} {n : Int} {t u : Tok} {Q : Value → Shared → Prop} (hx : x = S [c]) (h0 : 0 ≤ n) (h1 : n ≤ 4000) (h : ∀ t' tk, Q (.str (S (rp_ n.toNat c)) t') { s with toks := tk }) :
    wpAny (model prog w) A (binaryOp .Mult (.str x t) (.int n u)) Q E s := by
  subst hx
  refine SB.mul (mulOk_of 16 1048576 (by rw [S_length]; simp) (by omega) (by omega) (by decide) (by decide)) fun t' k => ?_
  rw [mul_one]
  exact h t' k
theorem neSame {x y : Str} {t u : Tok} {Q : Value → Shared → Prop} (e : x = y) (h : Q (.bool false) s) : wpAny (model prog w) A (compareOp .NotEq (.str x t) (.str y u)) Q E s := by
  subst e
  refine ne_str ?_
  have : (x != x) = false := by simp
  rw [this]; exact h
theorem eqSame {x y : Str} {t u : Tok} {Q : Value → Shared → Prop} (e : x = y) (h : Q (.bool true) s) : wpAny (model prog w) A (compareOp .Eq (.str x t) (.str y u)) Q E s := by
  subst e
  refine eq_str ?_
  have : (x == x) = true := by simp
  rw [this]; exact h
theorem iaddS {a b : List Nat} {t u : Tok} {Q : Value → Shared → Prop} (hl : a.length + b.length ≤ 4000) (h : ∀ t' tk, Q (.str (S (a ++ b)) t') { s with toks := tk }) :
    wpAny (model prog w) A (inplaceOp .Add (.str (S a) t) (.str (S b) u)) Q E s := by
  have e : sizeLine = 16777216 := by decide
  exact iadd_str (fun t' tk => by rw [S_append]; exact h t' tk) (by rw [S_length, S_length]; omega)
end
section
variable {prog : Program} {w : World} {A : Around} {E : Value → Shared → Prop} {s : Shared} {h₀ : Heap} {L : Addr} {m : Str → Option Value} {env : Env}
/-- a comprehension over a range, each element's text by a function of the number -/
theorem rest_R {n : Nat} {a : Int} {elt : Expr} {x : Str} {scope : Scope} {cl : List (Str × Addr)} {news : List (Addr × Obj)} {Fin : List Value → List (Addr × Obj) → Prop} (g : Int → Str)
    (turn : ∀ k t I oI C oC D m₂ ys h tk (E' : Value → Shared → Prop), a ≤ k → k < a + (n : Int) → LCg.NsObj oC m₂ → m₂ x = some (.int k t) → Fr h₀ L h m → News h₀ L h ((I, oI) :: (C, oC) :: (D, LCg.lst ys) :: news) → LCg.Off3 I C D news → ((@Ne Nat I C) ∧ (@Ne Nat I D) ∧ (@Ne Nat C D)) →
      wpAny (model prog w) A (eval elt (compEnvC scope cl C env)) (LCg.CompEnd h₀ L m { s with heap := h, toks := tk } I oI C oC D (LCg.lst ys) (fun _ => True) (fun v news' => KCtEl news (g k) v news')) E' { s with heap := h, toks := tk })
    (fin : ∀ ys, StrsAre ys ((rangeKs a n).map g) → Fin ys news) : LCg.CompRest prog w A h₀ L m env elt x scope cl s (fun _ => True) (fun i v => ∃ t, v = .int (a + (i : Int)) t) Fin n 0 [] news := by
  have hlen : (rangeKs a n).length = n := rangeKs_length a n
  have key : ∀ (j i : Nat) (ys : List Value), i + j = n → StrsAre ys (((rangeKs a n).take i).map g) → LCg.CompRest prog w A h₀ L m env elt x scope cl s (fun _ => True) (fun i v => ∃ t, v = .int (a + (i : Int)) t) Fin j i ys news := by
    intro j
    induction j with
    | zero =>
      intro i ys hi hy
      have e : i = (rangeKs a n).length := by omega
      subst e
      rw [List.take_length] at hy
      exact LCg.CompRest.zero (fin ys hy)
    | succ j ih =>
      intro i ys hi hy
      refine LCg.CompRest.succ ?_
      intro v I oI C oC D m₂ h tk E' hv hC hx F N off ne
      obtain ⟨t, hv'⟩ := hv
      have hk : (rangeKs a n)[i]? = some (a + (i : Int)) := by simp [rangeKs, show i < n by omega]
      rw [hv'] at hx
      refine wpAny_mono (turn (a + (i : Int)) t I oI C oC D m₂ ys h tk E' (by omega) (by omega) hC hx F N off ne) (fun y s₂ hq => ?_) fun _ _ e => e
      obtain ⟨h', tk', nw, e, F', N', off', hS, hn, t', hy'⟩ := hq
      rw [hn] at N' off'
      refine ⟨h', tk', news, e, F', N', off', hS, ?_⟩
      rw [hy']
      refine ih (i + 1) _ (by omega) ?_
      rw [List.take_add_one, hk]
      simpa using kct_snoc hy
  exact key n 0 [] (by omega) (by simp only [List.take_zero, List.map_nil]; exact .nil)
end
/-- the letters so far -/
def gath (pre : List Int) : List Nat := pre.flatMap fun k => canon k.toNat
theorem gath_length : ∀ {pre : List Int}, (∀ k ∈ pre, 0 ≤ k ∧ k < 400) → (gath pre).length ≤ 20 * pre.length
  | [], _ => by simp [gath]
  | k :: r, h => by
    have h1 := gath_length (pre := r) fun q hq => h q (.tail _ hq)
    have h2 := canon_length k.toNat (by have := h k (.head _); omega)
    unfold gath at *
    rw [List.flatMap_cons, List.length_append, List.length_cons]
    omega
/-! the counts of the letters laid together -/
theorem word7_count (c a b d e f g h : Nat) : (word7 a b d e f g h).count c = (if c = 77 then a else 0) + (if c = 68 then b else 0) + (if c = 67 then d else 0) + (if c = 76 then e else 0) + (if c = 88 then f else 0) + (if c = 86 then g else 0) + (if c = 73 then h else 0) := by
  unfold word7
  simp only [List.count_append, List.count_replicate, beq_iff_eq, eq_comm (b := c)]
  omega
def worth (l : List Nat) : Nat := 1000 * l.count 77 + 500 * l.count 68 + 100 * l.count 67 + 50 * l.count 76 + 10 * l.count 88 + 5 * l.count 86 + l.count 73
theorem worth_append (a b : List Nat) : worth (a ++ b) = worth a + worth b := by unfold worth; simp only [List.count_append]; omega
theorem worth_canon (n : Nat) : worth (canon n) = n := by
  unfold worth canon
  simp only [word7_count]
  simp
  omega
theorem worth_gath : ∀ {pre : List Int}, (∀ k ∈ pre, 0 ≤ k ∧ k < 400) → (worth (gath pre) : Int) = pre.sum
  | [], _ => rfl
  | k :: r, h => by
    have h1 := worth_gath (pre := r) fun q hq => h q (.tail _ hq)
    have h2 := (h k (.head _)).1
    unfold gath at *
    rw [List.flatMap_cons, worth_append, worth_canon, List.sum_cons]
    omega
/-- the seven letters laid together -/
def laidL (l : List Nat) : List Nat := word7 (l.count 77) (l.count 68) (l.count 67) (l.count 76) (l.count 88) (l.count 86) (l.count 73)
theorem counts_le : ∀ (l : List Nat), l.count 77 + l.count 68 + l.count 67 + l.count 76 + l.count 88 + l.count 86 + l.count 73 ≤ l.length
  | [] => by simp
  | d :: t => by
    have := counts_le t
    simp only [List.count_cons, List.length_cons, beq_iff_eq]
    repeat' split
    all_goals omega
theorem okL {Ks : List Int} (hk : ∀ k ∈ Ks, 0 ≤ k ∧ k < 400) (hl : Ks.length = 3) : RepOk (S (laidL (gath Ks))) laidW ∧ repP (grown ++ short) (laidL (gath Ks)) = numeral Ks.sum.toNat := by
  have h1 := gath_length hk
  have h2 := counts_le (gath Ks)
  have h3 := worth_gath hk
  have := okG ((gath Ks).count 77) ((gath Ks).count 68) ((gath Ks).count 67) ((gath Ks).count 76) ((gath Ks).count 88) ((gath Ks).count 86) ((gath Ks).count 73) (by omega)
  refine ⟨this.1, this.2.trans ?_⟩
  congr 1
  unfold worth at h3
  omega
theorem cnt_list (c : Nat) : ∀ l : List Nat, cnt c l = (l.count c : Int)
  | [] => by rw [cnt_nil]; simp
  | d :: t => by
    rw [cnt_cons, cnt_list c t, List.count_cons]
    by_cases h : d = c
    · subst h; simp; omega
    · simp [h]
theorem count_S (l : List Nat) (c : Nat) : Txt.count (S l) ⟨#[c]⟩ = (l.count c : Int) := by
  have h : Txt.count (S l) ⟨#[c]⟩ = cnt c (S l).cps.toList := count_is (S l) c
  rw [h, S_cps, cnt_list]
theorem calm17 : True := by k_with_none; w_top off; trivial
end
end Mine

namespace Mine
section
open PySem PySem.W PyProof.Rows PySem.Calls
set_option maxHeartbeats 1000000
theorem newsSub {h₀ h : Heap} {L : Addr} {big small : List (Addr × Obj)} (N : News h₀ L h big) (sub : ∀ p ∈ small, p ∈ big) : News h₀ L h small := fun p hp => N p (sub p hp)
section
variable {prog : Program} {w : World} {A : Around} {E : Value → Shared → Prop} {s : Shared}
theorem countOf {l : List Nat} {c : Nat} {x y : Str} {t u : Tok} {Q : Value → Shared → Prop} (hx : x = S l) (hy : y = ⟨#[c]⟩) (hl : l.length ≤ 4000) (h : ∀ t' tk, 0 ≤ (l.count c : Int) → (l.count c : Int) ≤ 4000 → Q (.int (l.count c : Int) t') { s with toks := tk }) :
    wpAny (model prog w) A (call (.builtin "str.count") [.str x t, .str y u]) Q E s := by
  subst hx hy
  refine SC.count ?_
  rw [count_S]
  have := List.count_le_length (a := c) (l := l)
  exact h _ _ (by omega) (by omega)
theorem itemW {value slice : PySem.Expr} {l : Addr} {vs : List Value} {i : Int} {u : Tok} {Q : Value → Shared → Prop} (hl : s.heap.IsList l vs.toArray) (hw : StrsAre vs laidW) (h0 : 0 ≤ i) (h1 : i < 24) (h : ∀ t', Q (.str (laidW.getD i.toNat Str.empty) t') s)
    (hs : subscripted slice false (.ref l) (.int i u) = operate [.ref l, .int i u] (getItem (.ref l) (.int i u))) :
    wpAny (model prog w) A (subscriptTail value slice (.ref l) (.int i u)) Q E s :=
  KTb.item_list hl hw h0 (by rw [laidW_length]; exact h1) (by omega) (fun t' _ => h t') hs
theorem joinL {l : List Nat} {D : Addr} {ys : List Value} {t : Tok} {Q : Value → Shared → Prop} (hl : s.heap.IsList D ys.toArray) (hn : l.length ≤ 4000)
    (hi : StrsAre ys ((Str.ofString "MDCLXVI").cps.toList.map fun c => S (rp_ (l.count c : Int).toNat c))) (h : ∀ t' k, Q (.str (S (laidL l)) t') { s with toks := k }) :
    wpAny (model prog w) A (call (.builtin "str.join") [.str (Str.ofString "") t, .ref D]) Q E s := by
  have e0 : (Str.ofString "MDCLXVI").cps.toList = [77, 68, 67, 76, 88, 86, 73] := by decide +kernel
  have e1 : (Str.ofString "").length = 0 := by decide +kernel
  rw [e0] at hi
  simp only [List.map_cons, List.map_nil, Int.toNat_natCast] at hi
  have hc := counts_le l
  refine join_list hl hi ?_ fun t' k => ?_
  · rw [e1]
    simp only [List.map_cons, List.map_nil, List.sum_cons, List.sum_nil, S_length, List.length_replicate]
    omega
  · rw [tj]
    have e : Str.join (Str.ofString "") [S (rp_ (l.count 77) 77), S (rp_ (l.count 68) 68), S (rp_ (l.count 67) 67), S (rp_ (l.count 76) 76), S (rp_ (l.count 88) 88), S (rp_ (l.count 86) 86), S (rp_ (l.count 73) 73)] = S (laidL l) := by
      show S _ ++ Str.ofString "" ++ (S _ ++ Str.ofString "" ++ (S _ ++ Str.ofString "" ++ (S _ ++ Str.ofString "" ++ (S _ ++ Str.ofString "" ++ (S _ ++ Str.ofString "" ++ S _))))) = _
      rw [show Str.ofString "" = S [] from rfl]
      simp only [S_append, List.append_nil, List.nil_append]
      rfl
    rw [e]
    exact h t' k
end
section
variable {w : World} {mean : ExcName → Option Value} {mg mb : Str → Option Value} {dp un : Nat} {gd : Option (List Code)} {cn : Str} {cs : Scope} {a : Addr} {ccd : Value} {cl : List (Str × Addr)} {outer : List Env} {A₀ : Around} {base h₀ : Heap} {L : Addr} {m : Str → Option Value} {news : List (Addr × Obj)} {s : Shared} {Q E : Value → Shared → Prop}
    {x : Str} {tx : Tok}
/-- a call of replace whose outcome is known -/
theorem rpZ {ps : List (List Nat × List Nat)} {l r : List Nat} {vs : List Value} {ys : List Str}
    (B : Below A₀ base outer h₀) (F : Fr h₀ L s.heap m) (X : (hd02.heap_39 w.params).In h₀) (N : News h₀ L s.heap news) (T : Top hd02.view_39 (looseW hd02.view_39 []) mean mg mb h₀) (hk : cs.kind = .function)
    (e : x = S l) (hv : StrsAre vs ys) (hy : ys = laidOut ps) (hok : RepOk (S l) (laidOut ps) ∧ repP ps l = r) (hp : ∀ p ∈ ps, p.1 ≠ [] ∧ p.1.all (· < 256) = true) (hlen : (laidOut ps).length ≤ 26) (hd : dp + 1 < recursionLimit) (hu : un + 8 < cLine)
    (hret : ∀ (t : Tok) (h' : Heap) (tk' : Nat), Fr h₀ L h' m → News h₀ L h' news → Q (.str (S r) t) { s with heap := h', toks := tk' }) :
    wpAny (model PySem.Challenge.rw_ph0179_02.row.prog w) (ktrTop dp un gd cn cs L a ccd cl outer) (call (.ref 21) (.str x tx :: vs)) Q E s := by
  obtain ⟨h1, h2⟩ := hok
  refine rpP B F X N T hk e hv hy hp h1 (by rw [hy]; exact hlen) hd hu ?_
  rw [h2]; exact hret
theorem tableS {l : List Nat} {tb ta : Tok}
    (B : Below A₀ base outer h₀) (F : Fr h₀ L s.heap m) (X : (hd02.heap_39 w.params).In h₀) (N : News h₀ L s.heap news) (T : Top hd02.view_39 (looseW hd02.view_39 []) mean mg mb h₀) (hk : cs.kind = .function)
    (e : x = S l) (hx : ∀ c ∈ l, isR c) (hn : l.length ≤ 1000) (hd : dp + 3 < recursionLimit) (hu : un + 32 < cLine)
    (hret : ∀ (t : Tok) (h' : Heap) (tk' : Nat), Fr h₀ L h' m → News h₀ L h' news → Q (.str (S (l.map tbl)) t) { s with heap := h', toks := tk' }) :
    wpAny (model PySem.Challenge.rw_ph0179_02.row.prog w) (ktrTop dp un gd cn cs L a ccd cl outer) (call (.ref 33) [.str x tx, .str (Str.ofString "IVXLC") tb, .str (Str.ofString "MDMDM") ta]) Q E s := by
  subst e
  exact table B F X N T hk hx hn hd hu hret
end
theorem calm18 : True := by k_with_none; w_top off; trivial
end
end Mine

namespace Mine
section
open PySem PySem.W PyProof.Rows PySem.Calls
set_option maxHeartbeats 1000000
theorem ofI : Str.ofString "I" = S [73] := by decide +kernel
theorem sEmpty : Str.ofString "" = S [] := by decide +kernel
theorem ints3 {G : Prop} {ys : List Value} {a b c : Int} (h : IntsAre ys [a, b, c]) (k : ∀ t u v, ys = [.int a t, .int b u, .int c v] → G) : G := by
  cases h with
  | cons _ t h1 => cases h1 with
    | cons _ u h2 => cases h2 with
      | cons _ v h3 => cases h3; exact k t u v rfl
theorem num3 {G : Prop} {ys : List Value} {g : Nat → Int} (h : IntsAre ys ((List.range 3).map fun i => (g i).fmod 400)) (k : ∀ a b c t u v, ys = [.int a t, .int b u, .int c v] → 0 ≤ a → a < 400 → 0 ≤ b → b < 400 → 0 ≤ c → c < 400 → G) : G := by
  have lo := fun i => Int.fmod_nonneg_of_pos (g i) (show (0 : Int) < 400 by decide)
  have hi := fun i => Int.fmod_lt_of_pos (g i) (show (0 : Int) < 400 by decide)
  exact ints3 h fun t u v e => k _ _ _ t u v e (lo 0) (hi 0) (lo 1) (hi 1) (lo 2) (hi 2)
theorem lt_nat {a : Int} (h0 : 0 ≤ a) (h : a < 400) : a.toNat < 400 := by omega
theorem eqHalf {n : Int} (h : 0 ≤ n) : S (numeral ((n.toNat + 1) / 2)) = S (numeral ((n + 1).fdiv 2).toNat) := by
  have e : ((n + 1).fdiv 2).toNat = (n.toNat + 1) / 2 := by rw [Int.fdiv_eq_ediv_of_nonneg _ (by decide)]; omega
  rw [e]
theorem eqTen {n : Int} (h : 0 ≤ n) : S (numeral (10 * n.toNat)) = S (numeral (10 * n).toNat) := by
  have e : (10 * n).toNat = 10 * n.toNat := by omega
  rw [e]
theorem StrsAre_nil {vs : List Value} {ys : List Str} (h : StrsAre vs ys) : StrsAre (vs ++ []) ys := by rw [List.append_nil]; exact h
theorem item3 {t u v : Tok} {i : Nat} {x : Value} (h : (#[Value.int 44 t, Value.int 49 u, Value.int 9 v] : Array Value)[i]? = some x) : ∃ tx, x = .int (([44, 49, 9] : List Int).getD i 0) tx ∧ 0 ≤ ([44, 49, 9] : List Int).getD i 0 ∧ ([44, 49, 9] : List Int).getD i 0 ≤ 49 := by
  match i, h with
  | 0, h => exact ⟨t, (Option.some.inj h).symm, by decide, by decide⟩
  | 1, h => exact ⟨u, (Option.some.inj h).symm, by decide, by decide⟩
  | 2, h => exact ⟨v, (Option.some.inj h).symm, by decide, by decide⟩
  | k + 3, h => simp at h
abbrev strideSum {vs : List Value} {ns : List Int} (_ : IntsAre vs ns) (i : Nat) : Int := (pickNums ns (some (i : Int)) none (some 3)).sum
theorem newsTup {h₀ h : Heap} {L l : Addr} {news : List (Addr × Obj)} {items : Array Value} {n : Nat} (N : News h₀ L h news) (hm : (l, Obj.mk (.type "tuple") none (.seq items n) #[]) ∈ news) : IsTup h l items := ⟨_, (N _ hm).1, rfl, _, rfl⟩
theorem turnEndI {h₀ h' : Heap} {L : Addr} {m : Str → Option Value} {s₁ : Shared} {big base : List (Addr × Obj)} {v v' : Int} {t : Tok} {tk : Nat} (F : Fr h₀ L h' m) (N : News h₀ L h' big) (sub : ∀ p ∈ base, p ∈ big) (e : v = v') :
    TurnEndE h₀ L m s₁ base v' (.int v t) { s₁ with heap := h', toks := tk } := ⟨h', tk, t, rfl, by rw [e], F, newsSub N sub⟩
theorem sum3 {a b c z : Int} (e : z = a + b + c) : S (numeral [a, b, c].sum.toNat) = S (numeral z.toNat) := by
  have e2 : [a, b, c].sum = z := by simp; omega
  rw [e2]
/-- all three numbers' letters -/
abbrev all3 (a b c : Int) : List Nat := canon a.toNat ++ canon b.toNat ++ canon c.toNat
theorem all3_gath (a b c : Int) : all3 a b c = gath [a, b, c] := by unfold all3 gath; simp
theorem all3_length {a b c : Int} (h0 : 0 ≤ a) (h1 : a < 400) (h2 : 0 ≤ b) (h3 : b < 400) (h4 : 0 ≤ c) (h5 : c < 400) : (all3 a b c).length ≤ 4000 := by
  rw [all3_gath]
  have := gath_length (pre := [a, b, c]) (by intro k hk; simp at hk; omega)
  simp at this
  omega
theorem ok3 {a b c : Int} (h0 : 0 ≤ a) (h1 : a < 400) (h2 : 0 ≤ b) (h3 : b < 400) (h4 : 0 ≤ c) (h5 : c < 400) : RepOk (S (laidL (all3 a b c))) laidW ∧ repP (grown ++ short) (laidL (all3 a b c)) = numeral [a, b, c].sum.toNat := by
  rw [all3_gath]
  exact okL (by intro k hk; simp at hk; omega) rfl
theorem iaddX {prog : Program} {w : World} {A : Around} {E : Value → Shared → Prop} {s : Shared} {Q : Value → Shared → Prop} {x : Str} {a b : List Nat} {t u : Tok} (hx : x = S a) (ha : a.length ≤ 3000) (hb : b.length ≤ 500) (h : ∀ t' tk, Q (.str (S (a ++ b)) t') { s with toks := tk }) :
    wpAny (model prog w) A (inplaceOp .Add (.str x t) (.str (S b) u)) Q E s := by
  subst hx
  exact iaddS (by omega) h
theorem canonLen {n : Int} (h0 : 0 ≤ n) (h1 : n < 400) : (canon n.toNat).length ≤ 500 := Nat.le_trans (canon_length _ (by omega)) (by decide)
theorem canonLen20 {n : Int} (h0 : 0 ≤ n) (h1 : n < 400) : (canon n.toNat).length ≤ 20 := canon_length _ (by omega)
theorem all3_a {a : Int} (h0 : 0 ≤ a) (h1 : a < 400) : (canon a.toNat).length ≤ 3000 := by have := canonLen20 h0 h1; omega
theorem all3_b {a b : Int} (h0 : 0 ≤ a) (h1 : a < 400) (h2 : 0 ≤ b) (h3 : b < 400) : (canon a.toNat ++ canon b.toNat).length ≤ 3000 := by
  have := canonLen20 h0 h1
  have := canonLen20 h2 h3
  rw [List.length_append]; omega
section
variable {w : World} {mean : ExcName → Option Value} {mg mb : Str → Option Value} {dp un : Nat} {gd : Option (List Code)} {cn : Str} {cs : Scope} {a : Addr} {ccd : Value} {cl : List (Str × Addr)} {outer : List Env} {A₀ : Around} {base h₀ : Heap} {L : Addr} {m : Str → Option Value} {news : List (Addr × Obj)} {s : Shared} {Q E : Value → Shared → Prop}
    {x : Str} {tx : Tok} {n : Int}
theorem rpA {vs : List Value}
    (B : Below A₀ base outer h₀) (F : Fr h₀ L s.heap m) (X : (hd02.heap_39 w.params).In h₀) (N : News h₀ L s.heap news) (T : Top hd02.view_39 (looseW hd02.view_39 []) mean mg mb h₀) (hk : cs.kind = .function)
    (hv : StrsAre vs laidW) (h0 : 0 ≤ n) (h1 : n < 400) (hd : dp + 1 < recursionLimit) (hu : un + 8 < cLine)
    (hret : ∀ (t : Tok) (h' : Heap) (tk' : Nat), Fr h₀ L h' m → News h₀ L h' news → Q (.str (S (numeral n.toNat)) t) { s with heap := h', toks := tk' }) :
    wpAny (model PySem.Challenge.rw_ph0179_02.row.prog w) (ktrTop dp un gd cn cs L a ccd cl outer) (call (.ref 21) (.str (S (rp_ n.toNat 73)) tx :: vs)) Q E s :=
  rpZ B F X N T hk rfl hv rfl (okA _ (lt_nat h0 h1)) all_ok.1 (by decide +kernel) hd hu hret
theorem rpB {vs : List Value}
    (B : Below A₀ base outer h₀) (F : Fr h₀ L s.heap m) (X : (hd02.heap_39 w.params).In h₀) (N : News h₀ L s.heap news) (T : Top hd02.view_39 (looseW hd02.view_39 []) mean mg mb h₀) (hk : cs.kind = .function)
    (hv : StrsAre vs laidT) (h0 : 0 ≤ n) (h1 : n < 400) (hd : dp + 1 < recursionLimit) (hu : un + 8 < cLine)
    (hret : ∀ (t : Tok) (h' : Heap) (tk' : Nat), Fr h₀ L h' m → News h₀ L h' news → Q (.str (S (rp_ n.toNat 73)) t) { s with heap := h', toks := tk' }) :
    wpAny (model PySem.Challenge.rw_ph0179_02.row.prog w) (ktrTop dp un gd cn cs L a ccd cl outer) (call (.ref 21) (.str (S (numeral n.toNat)) tx :: vs)) Q E s :=
  rpZ B F X N T hk rfl hv rfl (okB _ (lt_nat h0 h1)) all_ok.2.1 (by decide +kernel) hd hu hret
theorem rpC {vs : List Value} {t₁ t₂ : Tok}
    (B : Below A₀ base outer h₀) (F : Fr h₀ L s.heap m) (X : (hd02.heap_39 w.params).In h₀) (N : News h₀ L s.heap news) (T : Top hd02.view_39 (looseW hd02.view_39 []) mean mg mb h₀) (hk : cs.kind = .function)
    (hv : StrsAre vs laidW) (h0 : 0 ≤ n) (h1 : n < 400) (hd : dp + 1 < recursionLimit) (hu : un + 8 < cLine)
    (hret : ∀ (t : Tok) (h' : Heap) (tk' : Nat), Fr h₀ L h' m → News h₀ L h' news → Q (.str (S (numeral ((n.toNat + 1) / 2))) t) { s with heap := h', toks := tk' }) :
    wpAny (model PySem.Challenge.rw_ph0179_02.row.prog w) (ktrTop dp un gd cn cs L a ccd cl outer) (call (.ref 21) (.str (S (rp_ n.toNat 73)) tx :: .str (Str.ofString "II") t₁ :: .str (Str.ofString "I") t₂ :: vs)) Q E s :=
  rpZ (ys := Str.ofString "II" :: Str.ofString "I" :: laidW) B F X N T hk rfl (.cons _ _ (.cons _ _ hv)) (by decide +kernel) (okC _ (lt_nat h0 h1)) all_ok.2.2.1 (by decide +kernel) hd hu hret
theorem rpD {vs : List Value}
    (B : Below A₀ base outer h₀) (F : Fr h₀ L s.heap m) (X : (hd02.heap_39 w.params).In h₀) (N : News h₀ L s.heap news) (T : Top hd02.view_39 (looseW hd02.view_39 []) mean mg mb h₀) (hk : cs.kind = .function)
    (hv : StrsAre vs laidH) (h0 : 0 ≤ n) (h1 : n < 400) (hd : dp + 1 < recursionLimit) (hu : un + 8 < cLine)
    (hret : ∀ (t : Tok) (h' : Heap) (tk' : Nat), Fr h₀ L h' m → News h₀ L h' news → Q (.str (S (canon n.toNat)) t) { s with heap := h', toks := tk' }) :
    wpAny (model PySem.Challenge.rw_ph0179_02.row.prog w) (ktrTop dp un gd cn cs L a ccd cl outer) (call (.ref 21) (.str (S (numeral n.toNat)) tx :: vs)) Q E s :=
  rpZ B F X N T hk rfl hv rfl (okD _ (lt_nat h0 h1)) all_ok.2.2.2.1 (by decide +kernel) hd hu hret
theorem rpE {t₁ t₂ t₃ t₄ t₅ t₆ t₇ t₈ t₉ t₀ : Tok}
    (B : Below A₀ base outer h₀) (F : Fr h₀ L s.heap m) (X : (hd02.heap_39 w.params).In h₀) (N : News h₀ L s.heap news) (T : Top hd02.view_39 (looseW hd02.view_39 []) mean mg mb h₀) (hk : cs.kind = .function)
    (h0 : 0 ≤ n) (h1 : n < 400) (hd : dp + 1 < recursionLimit) (hu : un + 8 < cLine)
    (hret : ∀ (t : Tok) (h' : Heap) (tk' : Nat), Fr h₀ L h' m → News h₀ L h' news → Q (.str (S (numeral (10 * n.toNat))) t) { s with heap := h', toks := tk' }) :
    wpAny (model PySem.Challenge.rw_ph0179_02.row.prog w) (ktrTop dp un gd cn cs L a ccd cl outer) (call (.ref 21) [.str (S (numeral n.toNat)) tx, .str (Str.ofString "C") t₁, .str (Str.ofString "M") t₂, .str (Str.ofString "L") t₃, .str (Str.ofString "D") t₄, .str (Str.ofString "X") t₅, .str (Str.ofString "C") t₆, .str (Str.ofString "V") t₇, .str (Str.ofString "L") t₈, .str (Str.ofString "I") t₉, .str (Str.ofString "X") t₀]) Q E s :=
  rpZ B F X N T hk rfl (.cons _ _ (.cons _ _ (.cons _ _ (.cons _ _ (.cons _ _ (.cons _ _ (.cons _ _ (.cons _ _ (.cons _ _ (.cons _ _ .nil)))))))))) (ps := five) (by decide +kernel) (okE _ (lt_nat h0 h1)) all_ok.2.2.2.2.1 (by decide +kernel) hd hu hret
theorem rpF {t₁ t₂ t₃ t₄ t₅ t₆ t₇ t₈ t₉ t₀ : Tok}
    (B : Below A₀ base outer h₀) (F : Fr h₀ L s.heap m) (X : (hd02.heap_39 w.params).In h₀) (N : News h₀ L s.heap news) (T : Top hd02.view_39 (looseW hd02.view_39 []) mean mg mb h₀) (hk : cs.kind = .function)
    (h0 : 0 ≤ n) (h1 : n < 400) (hd : dp + 1 < recursionLimit) (hu : un + 8 < cLine)
    (hret : ∀ (t : Tok) (h' : Heap) (tk' : Nat), Fr h₀ L h' m → News h₀ L h' news → Q (.str (S ((numeral n.toNat).map tbl)) t) { s with heap := h', toks := tk' }) :
    wpAny (model PySem.Challenge.rw_ph0179_02.row.prog w) (ktrTop dp un gd cn cs L a ccd cl outer) (call (.ref 21) [.str (S (numeral n.toNat)) tx, .str (Str.ofString "I") t₁, .str (Str.ofString "X") t₂, .str (Str.ofString "V") t₃, .str (Str.ofString "L") t₄, .str (Str.ofString "X") t₅, .str (Str.ofString "C") t₆, .str (Str.ofString "L") t₇, .str (Str.ofString "D") t₈, .str (Str.ofString "C") t₉, .str (Str.ofString "M") t₀]) Q E s :=
  rpZ B F X N T hk rfl (.cons _ _ (.cons _ _ (.cons _ _ (.cons _ _ (.cons _ _ (.cons _ _ (.cons _ _ (.cons _ _ (.cons _ _ (.cons _ _ .nil)))))))))) (ps := fiveT) (by decide +kernel) (okF _ (lt_nat h0 h1)) all_ok.2.2.2.2.2 (by decide +kernel) hd hu hret
theorem rpL {vs : List Value} {i j k : Int}
    (B : Below A₀ base outer h₀) (F : Fr h₀ L s.heap m) (X : (hd02.heap_39 w.params).In h₀) (N : News h₀ L s.heap news) (T : Top hd02.view_39 (looseW hd02.view_39 []) mean mg mb h₀) (hk : cs.kind = .function)
    (hv : StrsAre vs laidW) (h0 : 0 ≤ i) (h1 : i < 400) (h2 : 0 ≤ j) (h3 : j < 400) (h4 : 0 ≤ k) (h5 : k < 400) (hd : dp + 1 < recursionLimit) (hu : un + 8 < cLine)
    (hret : ∀ (t : Tok) (h' : Heap) (tk' : Nat), Fr h₀ L h' m → News h₀ L h' news → Q (.str (S (numeral [i, j, k].sum.toNat)) t) { s with heap := h', toks := tk' }) :
    wpAny (model PySem.Challenge.rw_ph0179_02.row.prog w) (ktrTop dp un gd cn cs L a ccd cl outer) (call (.ref 21) (.str (S (laidL (all3 i j k))) tx :: vs)) Q E s :=
  rpZ B F X N T hk rfl hv rfl (ok3 h0 h1 h2 h3 h4 h5) all_ok.1 (by decide +kernel) hd hu hret
theorem tableN {tb ta : Tok}
    (B : Below A₀ base outer h₀) (F : Fr h₀ L s.heap m) (X : (hd02.heap_39 w.params).In h₀) (N : News h₀ L s.heap news) (T : Top hd02.view_39 (looseW hd02.view_39 []) mean mg mb h₀) (hk : cs.kind = .function)
    (h0 : 0 ≤ n) (h1 : n < 400) (hd : dp + 3 < recursionLimit) (hu : un + 32 < cLine)
    (hret : ∀ (t : Tok) (h' : Heap) (tk' : Nat), Fr h₀ L h' m → News h₀ L h' news → Q (.str (S ((numeral n.toNat).map tbl)) t) { s with heap := h', toks := tk' }) :
    wpAny (model PySem.Challenge.rw_ph0179_02.row.prog w) (ktrTop dp un gd cn cs L a ccd cl outer) (call (.ref 33) [.str (S (numeral n.toNat)) tx, .str (Str.ofString "IVXLC") tb, .str (Str.ofString "MDMDM") ta]) Q E s :=
  tableS B F X N T hk rfl (numeral_letters _ (lt_nat h0 h1)) (Nat.le_trans (numeral_length _ (by omega)) (by decide)) hd hu hret
end
theorem calm19 : True := by k_with_none; w_top off; trivial
end
end Mine

namespace Mine
section
open PySem PySem.W PyProof.Rows PySem.Calls
set_option maxHeartbeats 12000000
local macro_rules | `(tactic| walk_at "idle") => `(tactic| skip)
local macro_rules | `(tactic| walk_at "idle") => `(tactic| skip)
local macro_rules | `(tactic| walk_at "idle") => `(tactic| skip)
local macro_rules | `(tactic| walk_at "idle") => `(tactic| skip)
local macro_rules | `(tactic| walk_at "idle") => `(tactic| skip)
theorem stride2 {prog : Program} {w : World} {A : Around} {E : Value → Shared → Prop} {s : Shared} {h₀ : Heap} {L l : Addr} {m : Str → Option Value} {news : List (Addr × Obj)} {value slice : PySem.Expr} {vs : List Value} {ns : List Int} {vl vu vk : Value} {lo hi st : Option Int} {ops : List Value} {Q : Value → Shared → Prop}
    (F : Fr h₀ L s.heap m) (N : News h₀ L s.heap news) (hl : s.heap.IsList l vs.toArray) (hi' : IntsAre vs ns) (pl : IsPart vl lo) (pu : IsPart vu hi) (pk : IsPart vk st) (h0 : st ≠ some 0)
    (h : ∀ D ws h', IntsAre ws (pickNums ns lo hi st) → Fr h₀ L h' m → News h₀ L h' ((D, listOf ws.toArray 0) :: news) → (∀ p ∈ news, p.1 < D) → Q (.ref D) { s with heap := h' })
    (hs : subscripted slice false (.ref l) (.ref s.heap.objs.size) = operate ops (getItem (.ref l) (.ref s.heap.objs.size)))
    (ht : ∀ r, letTemporaryGo value (.ref l) r = pure ()) (hsz : vs.toArray.size ≤ sizeLine) :
    wpAny (model prog w) A (subscriptTail value slice (.ref l) (.ref s.heap.objs.size)) Q E { s with heap := s.heap.push { cls := .type "slice", data := .fields #[vl, vu, vk] } } := by
  refine slice_list3 F N hl pl pu pk h0 (fun h' F' N' => h _ (slicePick vs.toArray lo hi st).toList h' ?_ F' ?_ fun p hp => Nat.lt_succ_of_lt (Heap.lt_size (N p hp).1)) hs ht hsz
  · exact IntsAre.pick hi' _ _ _
  · rw [Array.toArray_toList]; exact N'
local macro_rules | `(tactic| walk_at "subscriptTail Name Slice ref ref") => `(tactic| (k_here; (with_reducible show wpAny _ _ (subscriptTail _ (PySem.Expr.Slice (some _) none (some _) _) (Value.ref _) (Value.ref _)) _ _ _); k_dflt (refine' stride2 ?F ?N ?l ?i ?p ?q ?k ?o ?_ ?s ?t ?z; (case F => k_asm); (case N => k_asm); (case l => kmk_list); (case i => l_ints); (case p => kmk_part); (case q => kmk_part); (case k => kmk_part); (case o => decide); (case s => with_unfolding_all rfl); (case t => kmk_pure); (case z => kmk_size)); intro D' ws' h' hI' F' N' l1; (try k_lt l1); (try k_sweep)))
local macro_rules | `(tactic| walk_at "subscriptTail Name Slice ref ref") => `(tactic| (k_here; (with_reducible show wpAny _ _ (subscriptTail _ (PySem.Expr.Slice none (some _) none _) (Value.ref _) (Value.ref _)) _ _ _); k_dflt (refine' pickTexts ?F ?N ?l ?i ?p ?q ?k ?_ ?s ?t; (case F => k_asm); (case N => k_asm); (case l => kmk_list); (case i => assumption); (case p => kmk_part); (case q => kmk_part); (case k => kmk_part); (case s => with_unfolding_all rfl); (case t => kmk_pure)); intro D' ws' h' hX' F' N' l1; (try k_lt l1); (try k_sweep)))
local macro_rules | `(tactic| walk_at "subscriptTail") => `(tactic| (k_here; (with_reducible show wpAny _ _ (subscriptTail _ (PySem.Expr.BinOp _ _ _ _) (Value.ref _) (Value.int _ _)) _ _ _); k_dflt (refine' itemW ?l ?i ?a ?b ?_ ?s; (case l => kmk_list); (case i => assumption); (case a => omega); (case b => omega); (case s => with_unfolding_all rfl)); intro t'))
local macro_rules | `(tactic| walk_at "binaryOp Add ref ref") => `(tactic| (k_here; (with_reducible show wpAny _ _ (binaryOp _ (Value.ref _) (Value.ref _)) _ _ _); k_dflt (refine' addTexts (zs := laidW) ?F ?N ?a ?b ?i ?j ?e ?z ?_; (case F => k_asm); (case N => k_asm); (case a => kmk_list); (case b => kmk_list); (case i => repeat' (first | exact StrsAre.nil | refine' StrsAre.cons _ _ ?_)); (case j => repeat' (first | exact StrsAre.nil | refine' StrsAre.cons _ _ ?_)); (case e => decide +kernel); (case z => decide +kernel)); intro D' us' h' hX' F' N' l1; (try k_lt l1); (try k_sweep)))
local macro_rules | `(tactic| walk_at "StarOf ref") => `(tactic| (k_here; k_dflt (refine' starTexts ?F ?N ?a ?c ?e ?i ?z ?_; (case F => k_asm); (case N => k_asm); (case a => k_mem); (case c => exact rfl); (case e => exact rfl); (case i => assumption); (case z => decide +kernel)); intro h' F' N'; (try k_sweep); (try dsimp only [List.nil_append, List.cons_append]); (try simp only [List.append_nil])))
local macro_rules | `(tactic| walk_at "binaryOp Mult str int") => `(tactic| (k_here; (with_reducible show wpAny _ _ (binaryOp Operator.Mult (Value.str _ _) (Value.int _ _)) _ _ _); (refine' mulS ?zx ?za ?zb ?_; (case zx => first | exact ofI | exact rfl); (case za => first | assumption | omega); (case zb => first | assumption | omega)); intro _ _))
local macro_rules | `(tactic| walk_at "compareOp NotEq str str") => `(tactic| (k_here; (refine' neSame ?ze ?_; (case ze => first | with_reducible rfl | exact eqHalf (by assumption) | exact eqTen (by assumption)))))
local macro_rules | `(tactic| walk_at "compareOp Eq str str") => `(tactic| (k_here; (refine' eqSame ?ze ?_; (case ze => first | with_reducible rfl | exact sum3 (by omega)))))
local macro_rules | `(tactic| walk_at "inplaceOp Add str str") => `(tactic| (k_here; (refine' iaddX ?zx ?za ?zb ?_; (case zx => first | with_reducible exact sEmpty | with_reducible rfl); (case zb => exact canonLen (by assumption) (by assumption)); (case za => first | exact Nat.zero_le _ | exact all3_a (by assumption) (by assumption) | exact all3_b (by assumption) (by assumption) (by assumption) (by assumption))); intro _ _))
local macro_rules | `(tactic| walk_at "call builtin:str.count") => `(tactic| (k_here; (refine' countOf ?zx ?zy ?zl ?_; (case zx => exact rfl); (case zy => exact rfl); (case zl => first | assumption | exact all3_length (by assumption) (by assumption) (by assumption) (by assumption) (by assumption) (by assumption))); intro _ _ _ _))
local macro_rules | `(tactic| walk_at "call ref") => `(tactic| (k_here; (with_reducible show wpAny _ _ (call (Value.ref 28) _) _ _ _); k_dflt (refine' numeralC ?B ?F ?X ?N ?T ?K ?n ?o ?d ?u ?_; (case B => k_asm); (case F => k_asm); (case X => k_asm); (case N => k_asm); (case T => k_asm); (case K => first | exact rfl | assumption); (case n => first | assumption | omega | ((rw [Int.fdiv_eq_ediv_of_nonneg _ (by decide)]); omega)); (case o => first | omega | ((rw [Int.fdiv_eq_ediv_of_nonneg _ (by decide)]); omega)); (case d => ktr_room); (case u => ktr_units)); intro t' h' tk' F' N'; (try k_fold)))
local macro_rules | `(tactic| walk_at "call ref") => `(tactic| (k_here; (with_reducible show wpAny _ _ (call (Value.ref 33) _) _ _ _); k_dflt (refine' tableN ?B ?F ?X ?N ?T ?K ?n ?o ?d ?u ?_; (case B => k_asm); (case F => k_asm); (case X => k_asm); (case N => k_asm); (case T => k_asm); (case K => first | exact rfl | assumption); (case n => assumption); (case o => assumption); (case d => ktr_room); (case u => ktr_units)); intro t' h' tk' F' N'; (try k_fold)))
local macro_rules | `(tactic| walk_at "call ref") => `(tactic| (k_here; (with_reducible show wpAny _ _ (call (Value.ref 21) _) _ _ _); k_dflt (first
  | (refine' rpE ?B ?F ?X ?N ?T ?K ?n ?o ?d ?u ?_; (case B => k_asm); (case F => k_asm); (case X => k_asm); (case N => k_asm); (case T => k_asm); (case K => first | exact rfl | assumption); (case n => assumption); (case o => assumption); (case d => ktr_room); (case u => ktr_units))
  | (refine' rpF ?B ?F ?X ?N ?T ?K ?n ?o ?d ?u ?_; (case B => k_asm); (case F => k_asm); (case X => k_asm); (case N => k_asm); (case T => k_asm); (case K => first | exact rfl | assumption); (case n => assumption); (case o => assumption); (case d => ktr_room); (case u => ktr_units))
  | (refine' rpC ?B ?F ?X ?N ?T ?K ?v ?n ?o ?d ?u ?_; (case v => first | assumption | exact StrsAre_nil (by assumption)); (case B => k_asm); (case F => k_asm); (case X => k_asm); (case N => k_asm); (case T => k_asm); (case K => first | exact rfl | assumption); (case n => assumption); (case o => assumption); (case d => ktr_room); (case u => ktr_units))
  | (refine' rpA ?B ?F ?X ?N ?T ?K ?v ?n ?o ?d ?u ?_; (case v => first | assumption | exact StrsAre_nil (by assumption)); (case B => k_asm); (case F => k_asm); (case X => k_asm); (case N => k_asm); (case T => k_asm); (case K => first | exact rfl | assumption); (case n => assumption); (case o => assumption); (case d => ktr_room); (case u => ktr_units))
  | (refine' rpB ?B ?F ?X ?N ?T ?K ?v ?n ?o ?d ?u ?_; (case v => first | assumption | exact StrsAre_nil (by assumption)); (case B => k_asm); (case F => k_asm); (case X => k_asm); (case N => k_asm); (case T => k_asm); (case K => first | exact rfl | assumption); (case n => assumption); (case o => assumption); (case d => ktr_room); (case u => ktr_units))
  | (refine' rpD ?B ?F ?X ?N ?T ?K ?v ?n ?o ?d ?u ?_; (case v => first | assumption | exact StrsAre_nil (by assumption)); (case B => k_asm); (case F => k_asm); (case X => k_asm); (case N => k_asm); (case T => k_asm); (case K => first | exact rfl | assumption); (case n => assumption); (case o => assumption); (case d => ktr_room); (case u => ktr_units))
  | (refine' rpL ?B ?F ?X ?N ?T ?K ?v ?n ?o ?n2 ?o2 ?n3 ?o3 ?d ?u ?_; (case v => first | assumption | exact StrsAre_nil (by assumption)); (case B => k_asm); (case F => k_asm); (case X => k_asm); (case N => k_asm); (case T => k_asm); (case K => first | exact rfl | assumption); (case n => assumption); (case o => assumption); (case n2 => assumption); (case o2 => assumption); (case n3 => assumption); (case o3 => assumption); (case d => ktr_room); (case u => ktr_units))); intro t' h' tk' F' N'; (try k_fold)))
-- the comprehensions
local macro_rules | `(tactic| walk_at "exec Assign cons ListComp") => `(tactic| (k_here; k_dflt (refine' LCg.Assign_ListComp_U ?zA ?zB ?zC ?zD ?zE ?zF ?zG ?zH ?zK ?zL ?_ ?zM; (case zA => k_asm); (case zB => exact rfl); (case zC => with_unfolding_all rfl); (case zD => with_unfolding_all rfl); (case zE => decide); (case zF => exact rfl); (case zG => decide); (case zH => exact rfl); (case zK => exact rfl); (case zL => exact rfl); (case zM => (intro _; exact rfl)))))
local macro_rules | `(tactic| walk_at "exec Assign cons ListComp") => `(tactic| (k_here; lcp_look; k_dflt (refine' Assign_ListComp_E ?zA ?zB ?zC ?zD ?zE ?zF ?zG ?zH ?zI ?zJ ?zK ?zL ?_ ?zM; (case zA => k_asm); (case zB => exact rfl); (case zC => with_unfolding_all rfl); (case zD => with_unfolding_all rfl); (case zE => decide); (case zF => exact rfl); (case zG => decide); (case zH => exact rfl); (case zI => exact rfl); (case zJ => decide); (case zK => exact rfl); (case zL => exact rfl); (case zM => (intro _; exact rfl)))))
local macro_rules | `(tactic| walk_at "eval ListComp") => `(tactic| (k_here; k_dflt (refine' ListComp_S ?zA ?zD ?zE ?zF ?zG ?zH ?_ ?zM; (case zA => k_asm); (case zD => with_unfolding_all rfl); (case zE => decide); (case zF => exact rfl); (case zG => decide); (case zH => exact rfl); (case zM => (intro _; exact rfl)))))
local macro_rules | `(tactic| walk_at "CompSrc") => `(tactic| (k_here; k_dflt (refine' LCg.CompSrc.range ?z1 ?z2 ?z3 ?z4 ?z5 ?z6 ?z7 ?_; (case z1 => exact rfl); (case z2 => k_asm); (case z3 => k_asm); (case z4 => assumption); (case z5 => decide); (case z6 => exact rfl); (case z7 => exact Nat.le_of_ble_eq_true rfl)); intro g'; (refine' rest_R (n := 24) (fun k => laidW.getD (23 - k).toNat Str.empty) ?zt ?zf); (case' zt => (intro k' t' I' oI' C' oC' D' m' ys' h' tk' E' hlo' hhi' hC' hx' F' N' off' ne'; (replace hhi' : k' < 24 := by omega); (try simp only [LCg.Off3, and_true] at off'))); (case' zf => (intro ys' hX'; (rw [turn_texts] at hX'); show LCg.FinA _ _ _ _ _ _ _ _))))
local macro_rules | `(tactic| walk_at "CompEnd") => `(tactic| (k_here; (refine' ⟨_, _, _, rfl, ?za, ?zb, ?zc, trivial, rfl, _, rfl⟩; (case za => k_asm); (case zb => k_asm); (case zc => first | assumption | (simp only [LCg.Off3, and_true]; assumption)))))
local macro_rules | `(tactic| walk_at "call type:enumerate") => `(tactic| (k_here; (rename IntsAre _ (List.take 60 _) => hT9); k_dflt (refine' enumT_src (fun i => (([44, 49, 9] : List Int).getD i 0 + strideSum hT9 i).fmod 400) ?z1 ?z2 ?z3 ?z4 ?z5 ?zt ?zf; (case z1 => exact rfl); (case z2 => k_asm); (case z3 => k_asm); (case z4 => (intro _ _ N9; refine' newsTup N9 ?z6; (case z6 => k_mem))); (case z5 => exact Nat.le_of_ble_eq_true rfl)); (case' zt => (intro g' i' v' t' e' oE' it' oI' C' oC' D' ys' m' h' tk' E' hv' hC' hx' hy' F' N'; (obtain ⟨tx', hv9', hlo', hhi'⟩ := item3 hv'); (clear hv'); (subst hv9'))); (case' zf => (intro g' ys' hys'; (refine' num3 hys' ?_); (clear hys'); (intro a9 b9 c9 ta9 tb9 tc9 e9 ha0 ha1 hb0 hb1 hc0 hc1); (subst e9); show LCg.FinA _ _ _ _ _ _ _ _))))
local macro_rules | `(tactic| walk_at "loadName") => `(tactic| (k_here; k_dflt (refine' ldnCN ?N ?c ?m ?d ?_ ?a ?b; (case a => exact rfl); (case b => exact rfl); (case N => k_asm); (case c => exact rfl); (case m => k_mem); (case d => k_asm); k_whole)))
local macro_rules | `(tactic| walk_at "SrcS") => `(tactic| (k_here; (refine' ⟨_, _, _, rfl, rfl, ?z1, ?z2, ?z3, ?_⟩; (case z1 => k_asm); (case z2 => k_asm); (case z3 => exact Nat.le_of_ble_eq_true rfl)); (rintro s₂ ⟨hh, e9⟩); (subst e9); (refine' rest_S (fun c => S (rp_ ((List.count c _ : Nat) : Int).toNat c)) ?zt ?zf); (case' zf => (intro ys' hys'; show LCg.FinE _ _ _ _ _ _ _))); (case' zt => (intro c' t' I' oI' C' oC' D' m' ys' h' tk' E' hc' hC' hx' F' N' off' ne'; (try simp only [LCg.Off3, and_true] at off'))))
local macro_rules | `(tactic| walk_at "call builtin:str.join") => `(tactic| (k_here; (k_dflt (refine' joinL ?zl ?zn ?zi ?_)); (case zi => assumption); (case zn => exact all3_length (by assumption) (by assumption) (by assumption) (by assumption) (by assumption) (by assumption)); (case zl => k_dflt (exact News.isList (by k_asm) (by k_mem))); (intro _ _)))
local macro_rules | `(tactic| walk_at "TurnEndE") => `(tactic| (k_here; (refine' turnEndI ?za ?zb ?zc ?ze; (case za => k_asm); (case zb => k_asm); (case zc => kcf_all); (case ze => exact rfl))))
theorem law02 : PySem.Challenge.rw_ph0179_02.Holds := hd02 (by
  k_go0
  (all_goals try k_fold)
  k_steps
  all_goals (try (exact ([] : List Nat)))
  all_goals fail "left")
theorem calm20 : True := by k_with_none; w_top off; trivial
end
end Mine

theorem PySem.Challenge.cw_ph0179_02_holds : PySem.Challenge.rw_ph0179_02.Holds :=
  Mine.law02
