import PyProof.Rows.All
import Wide.All
import OpenK.AllK
import Wide.FinOn
import PySem.Challenge.RW_dj5012_01

section
set_option autoImplicit false
namespace Mine

/-- a strict total order on positions -/
structure SO (lt : Nat → Nat → Bool) : Prop where
  irr : ∀ a, lt a a = false
  tr : ∀ a b c, lt a b = true → lt b c = true → lt a c = true
  tot : ∀ a b, a ≠ b → lt a b = true ∨ lt b a = true

namespace SO
variable {lt : Nat → Nat → Bool}
theorem asymm (O : SO lt) {a b : Nat} (h : lt a b = true) : lt b a = false := by
  cases h' : lt b a with
  | false => rfl
  | true => have := O.tr _ _ _ h h'; rw [O.irr] at this; cases this
theorem ne (O : SO lt) {a b : Nat} (h : lt a b = true) : a ≠ b := by
  rintro rfl; rw [O.irr] at h; cases h
theorem anti (O : SO lt) {a b : Nat} (h : lt a b = false) (h' : lt b a = false) : a = b := by
  by_cases e : a = b
  · exact e
  · rcases O.tot a b e with x | x
    · rw [h] at x; cases x
    · rw [h'] at x; cases x
theorem lt_of (O : SO lt) {a b : Nat} (h : lt a b = false) (e : a ≠ b) : lt b a = true := by
  rcases O.tot a b e with x | x
  · rw [h] at x; cases x
  · exact x
/-- le a b is: lt b a = false -/
theorem le_trans (O : SO lt) {a b c : Nat} (h : lt b a = false) (h' : lt c b = false) : lt c a = false := by
  cases x : lt c a with
  | false => rfl
  | true =>
    by_cases e : a = b
    · subst e; rw [h'] at x; cases x
    · have := O.tr _ _ _ x (O.lt_of h (Ne.symm e)); rw [h'] at this; cases this
theorem lt_of_lt_le (O : SO lt) {a b c : Nat} (h : lt a b = true) (h' : lt c b = false) : lt a c = true := by
  by_cases e : c = b
  · subst e; exact h
  · exact O.tr _ _ _ h (O.lt_of h' e)
theorem lt_of_le_lt (O : SO lt) {a b c : Nat} (h : lt b a = false) (h' : lt b c = true) : lt a c = true := by
  by_cases e : a = b
  · subst e; exact h'
  · exact O.tr _ _ _ (O.lt_of h (Ne.symm e)) h'
theorem flip (O : SO lt) : SO (fun a b => lt b a) where
  irr := O.irr
  tr := fun _ _ _ h h' => O.tr _ _ _ h' h
  tot := fun a b e => (O.tot a b e).symm
end SO

/-! ## the heap's functions on lists of positions -/

def sdGo (lt : Nat → Nat → Bool) (new start : Nat) : Nat → Nat → List Nat → List Nat
  | 0, pos, xs => xs.set pos new
  | f + 1, pos, xs =>
    if start < pos then
      if lt new (xs.getD ((pos - 1) / 2) 0) = true then sdGo lt new start f ((pos - 1) / 2) (xs.set pos (xs.getD ((pos - 1) / 2) 0))
      else xs.set pos new
    else xs.set pos new

def siftdown (lt : Nat → Nat → Bool) (xs : List Nat) (start pos : Nat) : List Nat := sdGo lt (xs.getD pos 0) start pos pos xs

def child (lt : Nat → Nat → Bool) (xs : List Nat) (pos : Nat) : Nat :=
  if 2 * pos + 2 < xs.length ∧ lt (xs.getD (2 * pos + 1) 0) (xs.getD (2 * pos + 2) 0) = false then 2 * pos + 2 else 2 * pos + 1

def suGo (lt : Nat → Nat → Bool) : Nat → Nat → List Nat → Nat × List Nat
  | 0, pos, xs => (pos, xs)
  | f + 1, pos, xs =>
    if 2 * pos + 1 < xs.length then suGo lt f (child lt xs pos) (xs.set pos (xs.getD (child lt xs pos) 0))
    else (pos, xs)

def siftup (lt : Nat → Nat → Bool) (xs : List Nat) (s : Nat) : List Nat :=
  siftdown lt ((suGo lt xs.length s xs).2.set (suGo lt xs.length s xs).1 (xs.getD s 0)) s (suGo lt xs.length s xs).1

def heapifyGo (lt : Nat → Nat → Bool) : Nat → List Nat → List Nat
  | 0, xs => xs
  | i + 1, xs => heapifyGo lt i (siftup lt xs i)
def heapify (lt : Nat → Nat → Bool) (xs : List Nat) : List Nat := heapifyGo lt (xs.length / 2) xs

def popRest (lt : Nat → Nat → Bool) (xs : List Nat) : List Nat :=
  if xs.length = 1 then [] else siftup lt (xs.dropLast.set 0 (xs.getD (xs.length - 1) 0)) 0

/-! ## lengths -/
theorem sdGo_length (lt : Nat → Nat → Bool) (new start : Nat) : ∀ (f pos : Nat) (xs : List Nat), (sdGo lt new start f pos xs).length = xs.length
  | 0, _, _ => by simp [sdGo]
  | f + 1, pos, xs => by
    unfold sdGo
    split
    · split
      · rw [sdGo_length lt new start f]; simp
      · simp
    · simp
theorem suGo_length (lt : Nat → Nat → Bool) : ∀ (f pos : Nat) (xs : List Nat), (suGo lt f pos xs).2.length = xs.length
  | 0, _, _ => by simp [suGo]
  | f + 1, pos, xs => by
    unfold suGo
    split
    · rw [suGo_length lt f]; simp
    · simp
theorem siftup_length (lt : Nat → Nat → Bool) (xs : List Nat) (s : Nat) : (siftup lt xs s).length = xs.length := by
  unfold siftup siftdown; rw [sdGo_length, List.length_set, suGo_length]
theorem popRest_length (lt : Nat → Nat → Bool) (xs : List Nat) : (popRest lt xs).length = xs.length - 1 := by
  unfold popRest; split
  · next h => rw [h]; rfl
  · rw [siftup_length]; simp

/-! ## permutations -/
theorem getD_set (xs : List Nat) (i j v : Nat) (hi : i < xs.length) : (xs.set i v).getD j 0 = if i = j then v else xs.getD j 0 := by
  rw [List.getD_eq_getElem?_getD, List.getD_eq_getElem?_getD, List.getElem?_set]
  by_cases h : i = j
  · subst h; simp [hi]
  · simp [h]

theorem set_perm {xs : List Nat} {p c v : Nat} (hp : p < xs.length) (hc : c < xs.length) (hpc : p ≠ c) :
    ((xs.set p (xs.getD c 0)).set c v).Perm (xs.set p v) := by
  rw [List.perm_iff_count]
  intro a
  have hc' : c < (xs.set p (xs.getD c 0)).length := by simpa using hc
  rw [List.count_set hc', List.count_set hp, List.count_set hp]
  have e1 : (xs.set p (xs.getD c 0))[c] = xs[c] := by rw [List.getElem_set_ne hpc]
  have e2 : xs.getD c 0 = xs[c] := by simp [hc]
  rw [e1, e2]
  have hle : ∀ i (h : i < xs.length), (if (xs[i] == a) = true then 1 else 0) ≤ xs.count a := by
    intro i h
    split
    · next q =>
      have : a ∈ xs := by rw [← beq_iff_eq.mp q]; exact List.getElem_mem h
      exact List.count_pos_iff.mpr this
    · omega
  have h1 := hle p hp
  have h2 := hle c hc
  -- two distinct places
  have h3 : (if (xs[p] == a) = true then 1 else 0) + (if (xs[c] == a) = true then 1 else 0) ≤ xs.count a + 0 ∨ True := Or.inr trivial
  omega

theorem suGo_lt (lt : Nat → Nat → Bool) : ∀ (f pos : Nat) (xs : List Nat), pos < xs.length → (suGo lt f pos xs).1 < xs.length
  | 0, _, _, h => h
  | f + 1, pos, xs, h => by
    unfold suGo
    split
    · next q =>
      have hc : child lt xs pos < xs.length := by unfold child; split <;> omega
      have := suGo_lt lt f (child lt xs pos) (xs.set pos (xs.getD (child lt xs pos) 0)) (by simpa using hc)
      simpa using this
    · exact h
theorem child_gt (lt : Nat → Nat → Bool) (xs : List Nat) (pos : Nat) : pos < child lt xs pos := by unfold child; split <;> omega
theorem child_lt {lt : Nat → Nat → Bool} {xs : List Nat} {pos : Nat} (h : 2 * pos + 1 < xs.length) : child lt xs pos < xs.length := by unfold child; split <;> omega

theorem suGo_perm (lt : Nat → Nat → Bool) (new : Nat) : ∀ (f pos : Nat) (xs : List Nat), pos < xs.length → ((suGo lt f pos xs).2.set (suGo lt f pos xs).1 new).Perm (xs.set pos new)
  | 0, _, _, _ => List.Perm.refl _
  | f + 1, pos, xs, h => by
    unfold suGo
    split
    · next q =>
      have hc : child lt xs pos < xs.length := child_lt q
      have ih := suGo_perm lt new f (child lt xs pos) (xs.set pos (xs.getD (child lt xs pos) 0)) (by simpa using hc)
      exact ih.trans (set_perm h hc (Nat.ne_of_lt (child_gt lt xs pos)))
    · exact List.Perm.refl _

theorem sdGo_perm (lt : Nat → Nat → Bool) (new start : Nat) : ∀ (f pos : Nat) (xs : List Nat), pos < xs.length → (sdGo lt new start f pos xs).Perm (xs.set pos new)
  | 0, _, _, _ => List.Perm.refl _
  | f + 1, pos, xs, h => by
    unfold sdGo
    split
    · next q =>
      split
      · have hq : (pos - 1) / 2 < xs.length := by omega
        have ih := sdGo_perm lt new start f ((pos - 1) / 2) (xs.set pos (xs.getD ((pos - 1) / 2) 0)) (by simpa using hq)
        exact ih.trans (set_perm h hq (by omega))
      · exact List.Perm.refl _
    · exact List.Perm.refl _

theorem set_getD_self (xs : List Nat) (i : Nat) : xs.set i (xs.getD i 0) = xs := by
  apply List.ext_getElem?
  intro j
  rw [List.getElem?_set]
  by_cases h : i = j
  · subst h
    by_cases hi : i < xs.length
    · simp [hi]
    · simp [hi]
  · simp [h]

theorem siftup_perm {lt : Nat → Nat → Bool} {xs : List Nat} {s : Nat} (hs : s < xs.length) : (siftup lt xs s).Perm xs := by
  unfold siftup siftdown
  have hp := suGo_lt lt xs.length s xs hs
  have hp2 : (suGo lt xs.length s xs).1 < ((suGo lt xs.length s xs).2.set (suGo lt xs.length s xs).1 (xs.getD s 0)).length := by
    rw [List.length_set, suGo_length]; exact hp
  refine (sdGo_perm lt _ s _ _ _ hp2).trans ?_
  rw [set_getD_self]
  refine (suGo_perm lt (xs.getD s 0) xs.length s xs hs).trans ?_
  rw [set_getD_self]

/-! ## the heap's order -/
def IsHp (lt : Nat → Nat → Bool) (xs : List Nat) (s : Nat) : Prop :=
  ∀ i, 0 < i → i < xs.length → s ≤ (i - 1) / 2 → lt (xs.getD i 0) (xs.getD ((i - 1) / 2) 0) = false

inductive Desc (s : Nat) : Nat → Prop where
  | base : Desc s s
  | left {p : Nat} : Desc s p → Desc s (2 * p + 1)
  | right {p : Nat} : Desc s p → Desc s (2 * p + 2)

theorem Desc.ge {s p : Nat} (h : Desc s p) : s ≤ p := by induction h <;> omega
theorem Desc.parent {s p : Nat} (h : Desc s p) (hne : p ≠ s) : Desc s ((p - 1) / 2) := by
  cases h with
  | base => exact absurd rfl hne
  | left h => rename_i p; rw [show (2 * p + 1 - 1) / 2 = p by omega]; exact h
  | right h => rename_i p; rw [show (2 * p + 2 - 1) / 2 = p by omega]; exact h
theorem Desc.child {s p : Nat} (h : Desc s p) (lt : Nat → Nat → Bool) (xs : List Nat) : Desc s (child lt xs p) := by
  unfold Mine.child; split
  · exact .right h
  · exact .left h

structure Down (lt : Nat → Nat → Bool) (s p : Nat) (xs : List Nat) : Prop where
  hp : p < xs.length
  desc : Desc s p
  edge : ∀ i, 0 < i → i < xs.length → s ≤ (i - 1) / 2 → (i - 1) / 2 ≠ p → lt (xs.getD i 0) (xs.getD ((i - 1) / 2) 0) = false
  over : p ≠ s → ∀ i, 0 < i → i < xs.length → (i - 1) / 2 = p → lt (xs.getD i 0) (xs.getD ((p - 1) / 2) 0) = false

theorem child_le {lt : Nat → Nat → Bool} (O : SO lt) {xs : List Nat} {p i : Nat} (hi : i < xs.length) (hi0 : 0 < i) (e : (i - 1) / 2 = p) :
    lt (xs.getD i 0) (xs.getD (child lt xs p) 0) = false := by
  have hi' : i = 2 * p + 1 ∨ i = 2 * p + 2 := by omega
  unfold child
  split
  · next h =>
    rcases hi' with rfl | rfl
    · exact h.2
    · exact O.irr _
  · next h =>
    rcases hi' with rfl | rfl
    · exact O.irr _
    · have : ¬ lt (xs.getD (2 * p + 1) 0) (xs.getD (2 * p + 2) 0) = false := fun x => h ⟨hi, x⟩
      exact O.asymm (by simpa using this)

theorem child_par (lt : Nat → Nat → Bool) (xs : List Nat) (p : Nat) : (child lt xs p - 1) / 2 = p := by unfold child; split <;> omega

theorem suGo_down {lt : Nat → Nat → Bool} (O : SO lt) {s : Nat} : ∀ (f p : Nat) (xs : List Nat), xs.length ≤ p + f → Down lt s p xs →
    Down lt s (suGo lt f p xs).1 (suGo lt f p xs).2 ∧ (suGo lt f p xs).2.length ≤ 2 * (suGo lt f p xs).1 + 1
  | 0, p, xs, hf, D => by
    have := D.hp
    exact absurd this (by omega)
  | f + 1, p, xs, hf, D => by
    unfold suGo
    split
    · next q =>
      have hc : child lt xs p < xs.length := child_lt q
      have hg := child_gt lt xs p
      have hpar := child_par lt xs p
      have hge := D.desc.ge
      refine suGo_down O f _ _ (by simp; omega) ⟨by simpa using hc, D.desc.child lt xs, ?_, ?_⟩
      · intro i h0 hi hs hne
        rw [List.length_set] at hi
        rw [getD_set _ _ _ _ D.hp, getD_set _ _ _ _ D.hp]
        by_cases h1 : p = i
        · subst h1
          rw [if_pos rfl, if_neg (by omega)]
          exact D.over (by omega) _ (by omega) hc hpar
        · rw [if_neg h1]
          by_cases h2 : p = (i - 1) / 2
          · rw [if_pos h2]; exact child_le O hi h0 h2.symm
          · rw [if_neg h2]; exact D.edge i h0 hi hs (Ne.symm h2)
      · intro hcs i h0 hi he
        rw [List.length_set] at hi
        rw [hpar, getD_set _ _ _ _ D.hp, getD_set _ _ _ _ D.hp, if_pos rfl, if_neg (by omega)]
        have := D.edge i h0 hi (by omega) (by omega)
        rwa [he] at this
    · next q => exact ⟨D, by dsimp only; omega⟩

/-- the way up: zs is the list with the new item laid at p -/
structure Up (lt : Nat → Nat → Bool) (new s p : Nat) (ys : List Nat) : Prop where
  hp : p < ys.length
  desc : Desc s p
  edge : ∀ i, 0 < i → i < ys.length → s ≤ (i - 1) / 2 → i ≠ p → lt ((ys.set p new).getD i 0) ((ys.set p new).getD ((i - 1) / 2) 0) = false
  over : p ≠ s → ∀ i, 0 < i → i < ys.length → (i - 1) / 2 = p → lt ((ys.set p new).getD i 0) ((ys.set p new).getD ((p - 1) / 2) 0) = false

theorem sdGo_up {lt : Nat → Nat → Bool} (O : SO lt) {new s : Nat} : ∀ (f p : Nat) (ys : List Nat), p ≤ s + f → Up lt new s p ys → IsHp lt (sdGo lt new s f p ys) s
  | 0, p, ys, hf, U => by
    have hps : p = s := Nat.le_antisymm hf U.desc.ge
    subst hps
    intro i h0 hi hs
    have hi' : i < ys.length := by simpa [sdGo] using hi
    exact U.edge i h0 hi' hs (by omega)
  | f + 1, p, ys, hf, U => by
    unfold sdGo
    have hge := U.desc.ge
    split
    · next q =>
      have hq0 : (p - 1) / 2 < ys.length := by have := U.hp; omega
      split
      · next hlt =>
        have hpar := U.desc.parent (by omega)
        have hpg := hpar.ge
        refine sdGo_up O f _ _ (by omega) ⟨by simpa using hq0, hpar, ?_, ?_⟩
        · intro i h0 hi hs hne
          rw [List.length_set] at hi
          have hl : (p - 1) / 2 < (ys.set p (ys.getD ((p - 1) / 2) 0)).length := by simpa using hq0
          rw [getD_set _ _ _ _ hl, getD_set _ _ _ _ hl, getD_set _ _ _ _ U.hp, getD_set _ _ _ _ U.hp, if_neg (Ne.symm hne)]
          by_cases h1 : p = i
          · subst h1
            rw [if_pos rfl, if_pos rfl]
            exact O.asymm hlt
          · rw [if_neg h1]
            have old := U.edge i h0 hi hs (Ne.symm h1)
            rw [getD_set _ _ _ _ U.hp, getD_set _ _ _ _ U.hp, if_neg h1] at old
            by_cases h2 : (p - 1) / 2 = (i - 1) / 2
            · rw [if_pos h2]
              rw [if_neg (by omega), ← h2] at old
              exact O.asymm (O.lt_of_lt_le hlt old)
            · rw [if_neg h2]
              by_cases h3 : p = (i - 1) / 2
              · rw [if_pos h3]
                have := U.over (by omega) i h0 hi h3.symm
                rw [getD_set _ _ _ _ U.hp, getD_set _ _ _ _ U.hp, if_neg h1, if_neg (by omega)] at this
                exact this
              · rw [if_neg h3] at old ⊢; exact old
        · intro hne i h0 hi he
          rw [List.length_set] at hi
          have hl : (p - 1) / 2 < (ys.set p (ys.getD ((p - 1) / 2) 0)).length := by simpa using hq0
          have hq1 := (hpar.parent hne).ge
          rw [getD_set _ _ _ _ hl, getD_set _ _ _ _ hl, getD_set _ _ _ _ U.hp, getD_set _ _ _ _ U.hp]
          have up1 := U.edge ((p - 1) / 2) (by omega) hq0 hq1 (by omega)
          rw [getD_set _ _ _ _ U.hp, getD_set _ _ _ _ U.hp, if_neg (by omega), if_neg (by omega)] at up1
          rw [if_neg (by omega), if_neg (show ¬ (p - 1) / 2 = ((p - 1) / 2 - 1) / 2 by omega), if_neg (show ¬ p = ((p - 1) / 2 - 1) / 2 by omega)]
          by_cases h1 : p = i
          · rw [if_pos h1]; exact up1
          · rw [if_neg h1]
            have old := U.edge i h0 hi (by omega) (Ne.symm h1)
            rw [getD_set _ _ _ _ U.hp, getD_set _ _ _ _ U.hp, if_neg h1, if_neg (by omega), he] at old
            exact O.le_trans up1 old
      · next hlt =>
        intro i h0 hi hs
        have hi' : i < ys.length := by simpa using hi
        by_cases h1 : i = p
        · subst h1
          rw [getD_set _ _ _ _ U.hp, getD_set _ _ _ _ U.hp, if_pos rfl, if_neg (by omega)]
          simpa using hlt
        · exact U.edge i h0 hi' hs h1
    · next q =>
      have hps : p = s := by omega
      subst hps
      intro i h0 hi hs
      have hi' : i < ys.length := by simpa using hi
      exact U.edge i h0 hi' hs (by omega)

theorem siftup_heap {lt : Nat → Nat → Bool} (O : SO lt) {xs : List Nat} {s : Nat} (hs : s < xs.length) (h : IsHp lt xs (s + 1)) : IsHp lt (siftup lt xs s) s := by
  have D : Down lt s s xs := ⟨hs, .base, fun i h0 hi h1 h2 => h i h0 hi (by omega), fun e => absurd rfl e⟩
  obtain ⟨D', hleaf⟩ := suGo_down O xs.length s xs (by omega) D
  unfold siftup siftdown
  have hl := suGo_length lt xs.length s xs
  have hp := D'.hp
  generalize suGo lt xs.length s xs = r at *
  obtain ⟨p, ys⟩ := r
  dsimp only at *
  have e1 : (ys.set p (xs.getD s 0)).getD p 0 = xs.getD s 0 := by rw [getD_set _ _ _ _ hp, if_pos rfl]
  rw [e1]
  refine sdGo_up O p p _ (by omega) ⟨by simpa using hp, D'.desc, ?_, ?_⟩
  · intro i h0 hi h1 h2
    rw [List.length_set] at hi
    rw [List.set_set, getD_set _ _ _ _ hp, getD_set _ _ _ _ hp, if_neg (Ne.symm h2), if_neg (by omega)]
    exact D'.edge i h0 hi h1 (by omega)
  · intro _ i h0 hi h1
    rw [List.length_set] at hi
    omega

theorem heapifyGo_spec {lt : Nat → Nat → Bool} (O : SO lt) : ∀ (i : Nat) (xs : List Nat), i ≤ xs.length → IsHp lt xs i → (heapifyGo lt i xs).Perm xs ∧ IsHp lt (heapifyGo lt i xs) 0
  | 0, xs, _, h => ⟨List.Perm.refl _, h⟩
  | i + 1, xs, hi, h => by
    unfold heapifyGo
    have hp := siftup_perm (lt := lt) (xs := xs) (s := i) (by omega)
    have ih := heapifyGo_spec O i (siftup lt xs i) (by rw [siftup_length]; omega) (siftup_heap O (by omega) h)
    exact ⟨ih.1.trans hp, ih.2⟩
theorem heapify_spec {lt : Nat → Nat → Bool} (O : SO lt) (xs : List Nat) : (heapify lt xs).Perm xs ∧ IsHp lt (heapify lt xs) 0 :=
  heapifyGo_spec O _ xs (by omega) fun i h0 hi h => absurd hi (by omega)

theorem hp_least {lt : Nat → Nat → Bool} (O : SO lt) {xs : List Nat} (h : IsHp lt xs 0) : ∀ i, i < xs.length → lt (xs.getD i 0) (xs.getD 0 0) = false := by
  intro i
  induction i using Nat.strongRecOn with
  | ind i ih =>
    intro hi
    by_cases h0 : i = 0
    · subst h0; exact O.irr _
    · exact O.le_trans (ih ((i - 1) / 2) (by omega) (by omega)) (h i (by omega) hi (Nat.zero_le _))

/-- a pop: the heap's items are the head d of the sorted rest and what stays; the first of the heap is d -/
theorem pop_spec {lt : Nat → Nat → Bool} (O : SO lt) {xs : List Nat} {d : Nat} {ds : List Nat} (h : IsHp lt xs 0) (hp : xs.Perm (d :: ds)) (hs : (d :: ds).Pairwise (fun a b => lt a b = true)) :
    xs.getD 0 0 = d ∧ (popRest lt xs).Perm ds ∧ IsHp lt (popRest lt xs) 0 := by
  have hlen := hp.length_eq
  rw [List.length_cons] at hlen
  obtain ⟨a, rest, rfl⟩ : ∃ a rest, xs = a :: rest := by
    cases xs with
    | nil => simp at hlen
    | cons a rest => exact ⟨a, rest, rfl⟩
  have hd : a = d := by
    have hda : d ∈ a :: rest := hp.symm.subset List.mem_cons_self
    obtain ⟨i, hi, e⟩ := List.mem_iff_getElem.mp hda
    have h1 := hp_least O h i hi
    have e' : (a :: rest).getD i 0 = d := by simp [List.getD_eq_getElem?_getD, List.getElem?_eq_getElem hi, e]
    rw [e'] at h1
    rcases List.mem_cons.mp (hp.subset (List.mem_cons_self (a := a) (l := rest))) with q | q
    · exact q
    · have := (List.pairwise_cons.mp hs).1 a q
      rw [show (a :: rest).getD 0 0 = a from rfl, this] at h1; cases h1
  subst hd
  refine ⟨rfl, ?_⟩
  have hr : rest.Perm ds := List.Perm.cons_inv hp
  by_cases h1 : (a :: rest).length = 1
  · have : rest = [] := by simpa using h1
    subst this
    have : ds = [] := by simpa using hlen.symm
    subst this
    unfold popRest
    rw [if_pos h1]
    exact ⟨List.Perm.refl _, fun i _ hi => absurd hi (by simp)⟩
  · unfold popRest
    rw [if_neg h1]
    have hne : rest ≠ [] := by rintro rfl; exact h1 rfl
    have hl0 : 0 < rest.length := List.length_pos_iff.mpr hne
    -- what lies behind the swap
    have hdl : (a :: rest).dropLast = a :: rest.dropLast := by cases rest with | nil => exact absurd rfl hne | cons b r => rfl
    have hlast : (a :: rest).getD ((a :: rest).length - 1) 0 = rest.getLast hne := by
      rw [List.getD_eq_getElem?_getD, ← List.getLast?_eq_getElem?, List.getLast?_cons, List.getLast?_eq_some_getLast hne]
      rfl
    rw [hdl, hlast, List.set_cons_zero]
    have hz : 0 < (rest.getLast hne :: rest.dropLast).length := by simp
    have pz : (rest.getLast hne :: rest.dropLast).Perm rest := by
      have := List.perm_append_comm (l₁ := [rest.getLast hne]) (l₂ := rest.dropLast)
      refine this.trans ?_
      rw [List.dropLast_concat_getLast hne]
    refine ⟨((siftup_perm hz).trans pz).trans hr, siftup_heap O hz ?_⟩
    intro i h0 hi hs1
    have hi' : i < rest.length := by simpa [Nat.sub_add_cancel hl0] using hi
    have e : ∀ j, 0 < j → j < rest.length → (rest.getLast hne :: rest.dropLast).getD j 0 = (a :: rest).getD j 0 := by
      intro j hj hj'
      obtain ⟨j, rfl⟩ : ∃ k, j = k + 1 := ⟨j - 1, by omega⟩
      simp only [List.getD_eq_getElem?_getD, List.getElem?_cons_succ, List.getElem?_dropLast]
      rw [if_pos (by omega)]
    rw [e i h0 hi', e _ (by omega) (by omega)]
    exact h i h0 (by simp only [List.length_cons]; omega) (Nat.zero_le _)

end Mine
end

section
set_option autoImplicit false
namespace Mine

/-! ## going around -/
def it (f : Nat → Nat) : Nat → Nat → Nat
  | 0, i => i
  | m + 1, i => f (it f m i)
theorem it_succ (f : Nat → Nat) : ∀ (m i : Nat), it f (m + 1) i = it f m (f i)
  | 0, _ => rfl
  | m + 1, i => by show f (it f (m + 1) i) = f (it f m (f i)); rw [it_succ f m i]
theorem it_add (f : Nat → Nat) : ∀ (a b i : Nat), it f (a + b) i = it f a (it f b i)
  | 0, b, i => by rw [Nat.zero_add]; rfl
  | a + 1, b, i => by rw [Nat.succ_add]; show f (it f (a + b) i) = f (it f a (it f b i)); rw [it_add f a b i]

structure Cyc (n : Nat) (σ τ : Nat → Nat) : Prop where
  sl : ∀ i, i < n → σ i < n
  tl : ∀ i, i < n → τ i < n
  ts : ∀ i, i < n → τ (σ i) = i
  st : ∀ i, i < n → σ (τ i) = i
  rs : ∀ i j, i < n → j < n → ∃ m, it σ m i = j
  rt : ∀ i j, i < n → j < n → ∃ m, it τ m i = j

namespace Cyc
variable {n : Nat} {σ τ : Nat → Nat}
theorem swap (C : Cyc n σ τ) : Cyc n τ σ := ⟨C.tl, C.sl, C.st, C.ts, C.rt, C.rs⟩
theorem itl (C : Cyc n σ τ) : ∀ (m : Nat) {i : Nat}, i < n → it σ m i < n
  | 0, _, h => h
  | m + 1, _, h => C.sl _ (C.itl m h)
theorem back (C : Cyc n σ τ) : ∀ (m : Nat) {i : Nat}, i < n → it τ m (it σ m i) = i
  | 0, _, _ => rfl
  | m + 1, i, h => by
    rw [it_succ τ m]
    show it τ m (τ (σ (it σ m i))) = i
    rw [C.ts _ (C.itl m h)]
    exact C.back m h
theorem back_le (C : Cyc n σ τ) {x m i : Nat} (hx : x ≤ m) (h : i < n) : it τ x (it σ m i) = it σ (m - x) i := by
  have e : m = x + (m - x) := by omega
  rw [e, it_add, C.back x (C.itl _ h)]
  congr 1
  omega
end Cyc

def nx (n i : Nat) : Nat := (i + 1) % n
def pv (n i : Nat) : Nat := (i + n - 1) % n
theorem nx_lt {n : Nat} (h : 0 < n) (i : Nat) : nx n i < n := Nat.mod_lt _ h
theorem pv_lt {n : Nat} (h : 0 < n) (i : Nat) : pv n i < n := Nat.mod_lt _ h
theorem nx_of {n i : Nat} (h : i + 1 < n) : nx n i = i + 1 := Nat.mod_eq_of_lt h
theorem nx_last {n i : Nat} (h : i + 1 = n) : nx n i = 0 := by unfold nx; rw [h, Nat.mod_self]
theorem pv_of {n i : Nat} (h0 : 0 < i) (h : i < n) : pv n i = i - 1 := by
  unfold pv
  rw [show i + n - 1 = (i - 1) + n by omega, Nat.add_mod_right, Nat.mod_eq_of_lt (by omega)]
theorem pv_zero {n : Nat} (h : 0 < n) : pv n 0 = n - 1 := by
  unfold pv
  rw [Nat.zero_add, Nat.mod_eq_of_lt (by omega)]
theorem pv_nx {n i : Nat} (h : i < n) : pv n (nx n i) = i := by
  by_cases e : i + 1 < n
  · rw [nx_of e, pv_of (by omega) e]; omega
  · rw [nx_last (by omega), pv_zero (by omega)]; omega
theorem nx_pv {n i : Nat} (h : i < n) : nx n (pv n i) = i := by
  by_cases e : 0 < i
  · rw [pv_of e h, nx_of (by omega)]; omega
  · have : i = 0 := by omega
    subst this
    rw [pv_zero h, nx_last (by omega)]
theorem nx_ne {n i : Nat} (h2 : 2 ≤ n) (h : i < n) : nx n i ≠ i := by
  by_cases e : i + 1 < n
  · rw [nx_of e]; omega
  · rw [nx_last (by omega)]; omega
theorem pv_ne {n i : Nat} (h2 : 2 ≤ n) (h : i < n) : pv n i ≠ i := by
  by_cases e : 0 < i
  · rw [pv_of e h]; omega
  · have : i = 0 := by omega
    subst this
    rw [pv_zero h]; omega
theorem it_nx {n : Nat} (h : 0 < n) : ∀ (m i : Nat), i < n → it (nx n) m i = (i + m) % n
  | 0, i, hi => by rw [Nat.add_zero, Nat.mod_eq_of_lt hi]; rfl
  | m + 1, i, hi => by
    show nx n (it (nx n) m i) = _
    rw [it_nx h m i hi]
    unfold nx
    rw [← Nat.add_assoc, Nat.add_mod (i + m) 1, Nat.add_mod ((i + m) % n) 1, Nat.mod_mod]
theorem cyc_nx {n : Nat} (h : 0 < n) : Cyc n (nx n) (pv n) where
  sl := fun i _ => nx_lt h i
  tl := fun i _ => pv_lt h i
  ts := fun _ hi => pv_nx hi
  st := fun _ hi => nx_pv hi
  rs := fun i j hi hj => by
    refine ⟨j + n - i, ?_⟩
    rw [it_nx h _ _ hi, show i + (j + n - i) = j + n by omega, Nat.add_mod_right, Nat.mod_eq_of_lt hj]
  rt := fun i j hi hj => by
    -- back from i: go on from j until i, and turn
    have C : ∀ m a, a < n → it (pv n) m (it (nx n) m a) = a := by
      intro m
      induction m with
      | zero => intro a _; rfl
      | succ m ih =>
        intro a ha
        rw [it_succ (pv n) m]
        show it (pv n) m (pv n (nx n (it (nx n) m a))) = a
        rw [pv_nx (by rw [it_nx h m a ha]; exact Nat.mod_lt _ h)]
        exact ih a ha
    refine ⟨i + n - j, ?_⟩
    have e : it (nx n) (i + n - j) j = i := by
      rw [it_nx h _ _ hj, show j + (i + n - j) = i + n by omega, Nat.add_mod_right, Nat.mod_eq_of_lt hi]
    rw [← e]
    rw [show it (nx n) (i + n - j) j = i from e]
    have := C (i + n - j) j hj
    rw [e] at this
    exact this

/-! ## stretches -/
inductive Conn (σ τ : Nat → Nat) (S : Nat → Prop) : Nat → Nat → Prop where
  | refl {i : Nat} : S i → Conn σ τ S i i
  | fwd {i j : Nat} : Conn σ τ S i j → S (σ j) → Conn σ τ S i (σ j)
  | bwd {i j : Nat} : Conn σ τ S i j → S (τ j) → Conn σ τ S i (τ j)

namespace Conn
variable {n : Nat} {σ τ : Nat → Nat} {S S' : Nat → Prop}
theorem left {i j : Nat} (h : Conn σ τ S i j) : S i := by induction h <;> assumption
theorem right {i j : Nat} (h : Conn σ τ S i j) : S j := by cases h <;> assumption
theorem trans {i j k : Nat} (h : Conn σ τ S i j) (h' : Conn σ τ S j k) : Conn σ τ S i k := by
  induction h' with
  | refl _ => exact h
  | fwd _ hs ih => exact ih.fwd hs
  | bwd _ hs ih => exact ih.bwd hs
theorem symm (C : Cyc n σ τ) (hS : ∀ i, S i → i < n) {i j : Nat} (h : Conn σ τ S i j) : Conn σ τ S j i := by
  induction h with
  | refl hs => exact .refl hs
  | fwd h hs ih =>
    rename_i j
    have e := C.ts j (hS _ h.right)
    have : Conn σ τ S (σ j) (τ (σ j)) := .bwd (.refl hs) (by rw [e]; exact h.right)
    rw [e] at this
    exact this.trans ih
  | bwd h hs ih =>
    rename_i j
    have e := C.st j (hS _ h.right)
    have : Conn σ τ S (τ j) (σ (τ j)) := .fwd (.refl hs) (by rw [e]; exact h.right)
    rw [e] at this
    exact this.trans ih
theorem mono (hs : ∀ i, S i → S' i) {i j : Nat} (h : Conn σ τ S i j) : Conn σ τ S' i j := by
  induction h with
  | refl h => exact .refl (hs _ h)
  | fwd _ h ih => exact ih.fwd (hs _ h)
  | bwd _ h ih => exact ih.bwd (hs _ h)
theorem swap {i j : Nat} (h : Conn σ τ S i j) : Conn τ σ S i j := by
  induction h with
  | refl h => exact .refl h
  | fwd _ h ih => exact ih.bwd h
  | bwd _ h ih => exact ih.fwd h
theorem arc (m : Nat) {i : Nat} (h : ∀ x, x ≤ m → S (it σ x i)) : Conn σ τ S i (it σ m i) := by
  induction m with
  | zero => exact .refl (h 0 (Nat.le_refl _))
  | succ m ih => exact .fwd (ih fun x hx => h x (by omega)) (h (m + 1) (Nat.le_refl _))
/-- from τ k, where k is not in S, one comes on by τ alone -/
theorem from_next (C : Cyc n σ τ) {k : Nat} (hk : k < n) (hS : ∀ i, S i → i < n) (hkS : ¬ S k) {j : Nat} (h : Conn σ τ S (τ k) j) :
    ∃ m, j = it τ m (τ k) ∧ ∀ x, x ≤ m → S (it τ x (τ k)) := by
  induction h with
  | refl h => exact ⟨0, rfl, fun x hx => by rw [Nat.le_zero.mp hx]; exact h⟩
  | fwd h hs ih =>
    obtain ⟨m, rfl, hm⟩ := ih
    cases m with
    | zero => exact absurd (by rw [show σ (it τ 0 (τ k)) = k from C.st k hk] at hs; exact hs) hkS
    | succ m =>
      refine ⟨m, ?_, fun x hx => hm x (by omega)⟩
      show σ (τ (it τ m (τ k))) = _
      exact C.st _ (hS _ (hm m (by omega)))
  | bwd h hs ih =>
    obtain ⟨m, rfl, hm⟩ := ih
    refine ⟨m + 1, rfl, fun x hx => ?_⟩
    by_cases q : x ≤ m
    · exact hm x q
    · rw [show x = m + 1 by omega]; exact hs
end Conn

def MinC (lt : Nat → Nat → Bool) (σ τ : Nat → Nat) (S : Nat → Prop) (i b : Nat) : Prop := Conn σ τ S i b ∧ ∀ j, Conn σ τ S i j → lt j b = false

/-! ## the window -/
structure Win (lt : Nat → Nat → Bool) (σ τ : Nat → Nat) (b k : Nat) : Prop where
  bk : lt b k = true
  mid : ∃ m, it σ (m + 1) b = k ∧ ∀ x, 0 < x → x ≤ m → lt b (it σ x b) = true ∧ lt (it σ x b) k = true
  low : ∃ q, lt (it σ (q + 1) k) b = true ∧ ∀ x, 0 < x → x ≤ q → lt b (it σ x k) = true ∧ lt (it σ x k) k = true
  high : ∃ u, lt k (it τ (u + 1) b) = true ∧ ∀ x, 0 < x → x ≤ u → lt b (it τ x b) = true ∧ lt (it τ x b) k = true

theorem Win.flip {lt : Nat → Nat → Bool} {n : Nat} {σ τ : Nat → Nat} (C : Cyc n σ τ) {b k : Nat} (hb : b < n) (W : Win lt σ τ b k) : Win (fun a c => lt c a) τ σ k b where
  bk := W.bk
  mid := by
    obtain ⟨m, e, h⟩ := W.mid
    refine ⟨m, by rw [← e]; exact C.back _ hb, fun x h0 hx => ?_⟩
    rw [← e, C.back_le (by omega) hb]
    have := h (m + 1 - x) (by omega) (by omega)
    rw [e]
    exact ⟨this.2, this.1⟩
  low := by
    obtain ⟨u, e, h⟩ := W.high
    exact ⟨u, e, fun x h0 hx => ⟨(h x h0 hx).2, (h x h0 hx).1⟩⟩
  high := by
    obtain ⟨q, e, h⟩ := W.low
    exact ⟨q, e, fun x h0 hx => ⟨(h x h0 hx).2, (h x h0 hx).1⟩⟩

theorem least_of {P : Nat → Prop} {m : Nat} (h : P m) : ∃ q, q ≤ m ∧ P q ∧ ∀ x, x < q → ¬ P x := by
  induction m using Nat.strongRecOn with
  | ind m ih =>
    by_cases q : ∃ x, x < m ∧ P x
    · obtain ⟨x, hx, px⟩ := q
      obtain ⟨y, h1, h2, h3⟩ := ih x hx px
      exact ⟨y, by omega, h2, h3⟩
    · exact ⟨m, Nat.le_refl _, h, fun x hx px => q ⟨x, hx, px⟩⟩

section
variable {lt : Nat → Nat → Bool} {n : Nat} {σ τ : Nat → Nat}

/-- what the text looks at, when k comes -/
def Joins (lt : Nat → Nat → Bool) (n : Nat) (σ τ : Nat → Nat) (b k : Nat) : Prop :=
  MinC lt σ τ (fun i => i < n ∧ lt i k = true) (τ k) b ∧ ∃ a, Conn σ τ (fun i => i < n ∧ lt i k = true) (σ k) a ∧ lt a b = true

theorem win_of_joins (O : SO lt) (C : Cyc n σ τ) {b k : Nat} (hk : k < n) (M : Joins lt n σ τ b k) : Win lt σ τ b k := by
  obtain ⟨⟨hb, hmin⟩, a, ha, hab⟩ := M
  have hS : ∀ i, (fun i => i < n ∧ lt i k = true) i → i < n := fun i h => h.1
  have hkS : ¬ (fun i => i < n ∧ lt i k = true) k := fun h => by have := h.2; rw [O.irr] at this; cases this
  have apart : ¬ Conn σ τ (fun i => i < n ∧ lt i k = true) (τ k) (σ k) := fun h => by
    have := hmin a (h.trans ha); rw [hab] at this; cases this
  obtain ⟨m, em, hm⟩ := hb.from_next C hk hS hkS
  obtain ⟨m', em', hm'⟩ := ha.swap.from_next C.swap hk hS hkS
  have hbn := hb.right.1
  have hbk := hb.right.2
  have ek : it σ (m + 1) b = k := by
    rw [em, ← it_succ τ]
    exact C.swap.back (m + 1) hk
  refine ⟨hbk, ⟨m, ek, fun x h0 hx => ?_⟩, ?_, ?_⟩
  · -- between b and k
    have e1 : it σ x b = it τ (m - x) (τ k) := by
      rw [em]
      exact C.swap.back_le hx (C.tl _ hk)
    have c1 : Conn σ τ (fun i => i < n ∧ lt i k = true) (τ k) (it σ x b) := by
      rw [e1]; exact (Conn.arc (m - x) fun y hy => hm y (by omega)).swap
    refine ⟨O.lt_of (hmin _ c1) ?_, c1.right.2⟩
    intro e
    apply hkS
    have e2 : k = it τ (x - 1) (τ k) := by
      have e3 : it σ (m + 1) b = it σ (m + 1 - x) b := by
        rw [show m + 1 = (m + 1 - x) + x by omega, it_add, e]
        congr 1
        omega
      rw [ek] at e3
      have e4 : it σ (m + 1 - x) b = it τ x k := by
        rw [em, ← it_succ τ]
        rw [show it σ (m + 1 - x) (it τ (m + 1) k) = it τ (m + 1 - (m + 1 - x)) k from C.swap.back_le (by omega) hk]
        congr 1
        omega
      rw [e4, show x = (x - 1) + 1 by omega, it_succ] at e3
      exact e3
    have := hm (x - 1) (by omega)
    rw [← e2] at this
    exact this
  · -- the first below b
    have h1 : lt (it σ (m' + 1) k) b = true := by rw [it_succ, ← em']; exact hab
    obtain ⟨q, hq, hq1, hq2⟩ := least_of (P := fun q => lt (it σ (q + 1) k) b = true) h1
    refine ⟨q, hq1, fun x h0 hx => ?_⟩
    have hn := hq2 (x - 1) (by omega)
    have c1 : Conn σ τ (fun i => i < n ∧ lt i k = true) (σ k) (it σ (x - 1) (σ k)) := Conn.arc (x - 1) fun y hy => hm' y (by omega)
    rw [← it_succ] at c1
    rw [show x - 1 + 1 = x by omega] at c1 hn
    refine ⟨O.lt_of (by simpa using hn) ?_, c1.right.2⟩
    intro e
    rw [e] at c1
    exact apart (hb.trans (c1.symm C hS))
  · -- the first above k
    obtain ⟨v, hv⟩ := C.rt b k hbn hk
    have hv0 : ¬ (fun i => i < n ∧ lt i k = true) (it τ v b) := by rw [hv]; exact hkS
    obtain ⟨u, hu, hu1, hu2⟩ := least_of (P := fun u => ¬ (fun i => i < n ∧ lt i k = true) (it τ u b)) hv0
    have hu0 : u ≠ 0 := by rintro rfl; exact hu1 hb.right
    obtain ⟨u, rfl⟩ : ∃ w, u = w + 1 := ⟨u - 1, by omega⟩
    have inS : ∀ x, x ≤ u → (fun i => i < n ∧ lt i k = true) (it τ x b) := fun x hx => Classical.byContradiction fun h => hu2 x (by omega) h
    have hun := C.swap.itl (u + 1) hbn
    have cx : ∀ x, x ≤ u → Conn σ τ (fun i => i < n ∧ lt i k = true) (τ k) (it τ x b) := fun x hx => hb.trans (Conn.arc x fun y hy => inS y (by omega)).swap
    refine ⟨u, ?_, fun x h0 hx => ⟨O.lt_of (hmin _ (cx x hx)) ?_, (inS x hx).2⟩⟩
    · refine O.lt_of (by have := hu1; cases q : lt (it τ (u + 1) b) k with | false => rfl | true => exact absurd ⟨hun, q⟩ this) ?_
      intro e
      apply apart
      have := cx u (Nat.le_refl _)
      have e2 : it τ u b = σ k := by
        rw [← e]
        show it τ u b = σ (τ (it τ u b))
        rw [C.st _ (inS u (Nat.le_refl _)).1]
      rw [e2] at this
      exact this
    · intro e
      apply hu1
      have e3 : it τ (u + 1) b = it τ (u + 1 - x) b := by
        rw [show u + 1 = (u + 1 - x) + x by omega, it_add, e]
        congr 1
        omega
      rw [e3]
      exact inS _ (by omega)

theorem joins_of_win (O : SO lt) (C : Cyc n σ τ) {b k : Nat} (hb : b < n) (W : Win lt σ τ b k) : Joins lt n σ τ b k := by
  obtain ⟨hbk, ⟨m, ek, hm⟩, ⟨q, hq, hqm⟩, ⟨u, hu, hum⟩⟩ := W
  have hk : k < n := by rw [← ek]; exact C.itl _ hb
  have inB : ∀ x, x ≤ m → (fun i => i < n ∧ lt i k = true) (it σ x b) := fun x hx => by
    refine ⟨C.itl _ hb, ?_⟩
    by_cases h0 : x = 0
    · subst h0; exact hbk
    · exact (hm x (by omega) hx).2
  have inT : ∀ x, x ≤ u → (fun i => i < n ∧ lt i k = true) (it τ x b) := fun x hx => by
    refine ⟨C.swap.itl _ hb, ?_⟩
    by_cases h0 : x = 0
    · subst h0; exact hbk
    · exact (hum x (by omega) hx).2
  have inQ : ∀ x, x ≤ q → (fun i => i < n ∧ lt i k = true) (it σ x (σ k)) := fun x hx => by
    rw [← it_succ]
    refine ⟨C.itl _ hk, ?_⟩
    by_cases h0 : x < q
    · exact (hqm (x + 1) (by omega) (by omega)).2
    · rw [show x = q by omega]; exact O.tr _ _ _ hq hbk
  have etk : τ k = it σ m b := by rw [← ek]; exact C.ts _ (C.itl _ hb)
  have hS : ∀ i, (fun i => i < n ∧ lt i k = true) i → i < n := fun i h => h.1
  refine ⟨⟨?_, ?_⟩, it σ q (σ k), Conn.arc q inQ, by rw [← it_succ]; exact hq⟩
  · rw [etk]
    exact (Conn.arc m inB).symm C hS
  · intro j hj
    have key : (∃ x, x ≤ m ∧ j = it σ x b) ∨ ∃ x, x ≤ u ∧ j = it τ x b := by
      induction hj with
      | refl h => exact .inl ⟨m, Nat.le_refl _, etk⟩
      | fwd h hs ih =>
        rcases ih with ⟨x, hx, rfl⟩ | ⟨x, hx, rfl⟩
        · by_cases h1 : x < m
          · exact .inl ⟨x + 1, h1, rfl⟩
          · rw [show x = m by omega] at hs ⊢
            rw [show σ (it σ m b) = k from ek] at hs
            have := hs.2; rw [O.irr] at this; cases this
        · by_cases h0 : x = 0
          · subst h0
            by_cases h1 : 0 < m
            · exact .inl ⟨1, h1, rfl⟩
            · have : m = 0 := by omega
              subst this
              rw [show σ (it τ 0 b) = k from ek] at hs
              have := hs.2; rw [O.irr] at this; cases this
          · obtain ⟨x, rfl⟩ : ∃ y, x = y + 1 := ⟨x - 1, by omega⟩
            exact .inr ⟨x, by omega, C.st _ (C.swap.itl _ hb)⟩
      | bwd h hs ih =>
        have stop : ∀ x, x = u → (fun i => i < n ∧ lt i k = true) (τ (it τ x b)) → False := fun x e' h' => by
          subst e'
          have := O.asymm hu
          rw [show it τ (x + 1) b = τ (it τ x b) from rfl, h'.2] at this; cases this
        rcases ih with ⟨x, hx, rfl⟩ | ⟨x, hx, rfl⟩
        · by_cases h0 : x = 0
          · subst h0
            by_cases h1 : 0 < u
            · exact .inr ⟨1, h1, rfl⟩
            · exact (stop 0 (by omega) hs).elim
          · obtain ⟨x, rfl⟩ : ∃ y, x = y + 1 := ⟨x - 1, by omega⟩
            exact .inl ⟨x, by omega, C.ts _ (C.itl _ hb)⟩
        · by_cases h1 : x < u
          · exact .inr ⟨x + 1, h1, rfl⟩
          · exact (stop x (by omega) hs).elim
    rcases key with ⟨x, hx, rfl⟩ | ⟨x, hx, rfl⟩
    · by_cases h0 : x = 0
      · subst h0; exact O.irr _
      · exact O.asymm (hm x (by omega) hx).1
    · by_cases h0 : x = 0
      · subst h0; exact O.irr _
      · exact O.asymm (hum x (by omega) hx).1
end

/-- a bar from below: the two directions -/
def Bar (lt : Nat → Nat → Bool) (n b k : Nat) : Prop := Win lt (nx n) (pv n) b k ∨ Win lt (pv n) (nx n) b k
theorem Bar.flip {lt : Nat → Nat → Bool} {n b k : Nat} (h0 : 0 < n) (hb : b < n) (h : Bar lt n b k) : Bar (fun a c => lt c a) n k b :=
  h.elim (fun w => .inr (w.flip (cyc_nx h0) hb)) fun w => .inl (w.flip (cyc_nx h0).swap hb)
theorem Bar.iff_flip {lt : Nat → Nat → Bool} {n b k : Nat} (h0 : 0 < n) (hb : b < n) (hk : k < n) : Bar lt n b k ↔ Bar (fun a c => lt c a) n k b :=
  ⟨Bar.flip h0 hb, fun h => Bar.flip (lt := fun a c => lt c a) h0 hk h⟩
theorem Bar.lt {lt : Nat → Nat → Bool} {n b k : Nat} (h : Bar lt n b k) : lt b k = true := h.elim (·.bk) (·.bk)

end Mine
end

section
set_option autoImplicit false
namespace Mine

/-! ## the text's bars on positions -/
def bstep (lt : Nat → Nat → Bool) (n : Nat) (st : List (Option Nat) × List (Nat × Nat)) (k : Nat) : List (Option Nat) × List (Nat × Nat) :=
  match st.1.getD (pv n k) none, st.1.getD (nx n k) none with
  | some a, some c =>
    if a = c then (st.1.set k (some a), st.2)
    else ((st.1.set k (some (if lt c a = true then c else a))).map (fun x => if x = some (if lt a c = true then c else a) then some (if lt c a = true then c else a) else x),
      st.2 ++ [((if lt a c = true then c else a), k)])
  | some a, none => (st.1.set k (some a), st.2)
  | none, some c => (st.1.set k (some c), st.2)
  | none, none => (st.1.set k (some k), st.2)

def bruns (lt : Nat → Nat → Bool) (n : Nat) (ds : List Nat) : List (Option Nat) × List (Nat × Nat) := ds.foldl (bstep lt n) (List.replicate n none, [])

structure Own (lt : Nat → Nat → Bool) (n : Nat) (S : Nat → Prop) (ow : List (Option Nat)) : Prop where
  len : ow.length = n
  none_ : ∀ i, i < n → (ow.getD i none = none ↔ ¬ S i)
  some_ : ∀ i m, i < n → ow.getD i none = some m → MinC lt (nx n) (pv n) S i m

theorem getD_setO (xs : List (Option Nat)) (i j : Nat) (v : Option Nat) (hi : i < xs.length) : (xs.set i v).getD j none = if i = j then v else xs.getD j none := by
  rw [List.getD_eq_getElem?_getD, List.getD_eq_getElem?_getD, List.getElem?_set]
  by_cases h : i = j
  · subst h; simp [hi]
  · simp [h]
theorem getD_mapO (xs : List (Option Nat)) (f : Option Nat → Option Nat) (j : Nat) (hj : j < xs.length) : (xs.map f).getD j none = f (xs.getD j none) := by
  simp [List.getD_eq_getElem?_getD, hj]

section
variable {lt : Nat → Nat → Bool} {n : Nat} {S : Nat → Prop} {ow : List (Option Nat)}
theorem Own.some_of (I : Own lt n S ow) {i : Nat} (hi : i < n) (h : S i) : ∃ m, ow.getD i none = some m := by
  cases e : ow.getD i none with
  | none => exact absurd h ((I.none_ i hi).mp e)
  | some m => exact ⟨m, rfl⟩
theorem Own.in_of (I : Own lt n S ow) {i m : Nat} (hi : i < n) (h : ow.getD i none = some m) : S i := (I.some_ i m hi h).1.left
theorem MinC.unique (O : SO lt) {σ τ : Nat → Nat} {i a c : Nat} (h : MinC lt σ τ S i a) (h' : MinC lt σ τ S i c) : a = c :=
  O.anti (h'.2 a h.1) (h.2 c h'.1)
theorem MinC.move (C : Cyc n (nx n) (pv n)) (hS : ∀ i, S i → i < n) {i j a : Nat} (h : MinC lt (nx n) (pv n) S i a) (c : Conn (nx n) (pv n) S j i) : MinC lt (nx n) (pv n) S j a :=
  ⟨c.trans h.1, fun x hx => h.2 x ((c.symm C hS).trans hx)⟩
theorem Own.iff (O : SO lt) (I : Own lt n S ow) {i m : Nat} (hi : i < n) : ow.getD i none = some m ↔ MinC lt (nx n) (pv n) S i m := by
  refine ⟨I.some_ i m hi, fun h => ?_⟩
  obtain ⟨m', e⟩ := I.some_of hi h.1.left
  rw [e, MinC.unique O (I.some_ i m' hi e) h]
theorem Own.root (O : SO lt) (C : Cyc n (nx n) (pv n)) (hS : ∀ i, S i → i < n) (I : Own lt n S ow) {i m : Nat} (hi : i < n) (h : ow.getD i none = some m) : ow.getD m none = some m := by
  have M := I.some_ i m hi h
  exact (I.iff O (hS _ M.1.right)).mpr ⟨.refl M.1.right, fun j hj => M.2 j (M.1.trans hj)⟩
theorem Own.conn (O : SO lt) (C : Cyc n (nx n) (pv n)) (hS : ∀ i, S i → i < n) (I : Own lt n S ow) {i j c : Nat} (hi : i < n) (hj : j < n) (e : ow.getD j none = some c) :
    Conn (nx n) (pv n) S i j ↔ ow.getD i none = some c := by
  have M := I.some_ j c hj e
  refine ⟨fun h => (I.iff O hi).mpr (M.move C hS h), fun h => ?_⟩
  exact (I.some_ i c hi h).1.trans (M.1.symm C hS)

/-- what k joins -/
def Tch (n : Nat) (S : Nat → Prop) (k i : Nat) : Prop := i = k ∨ Conn (nx n) (pv n) S i (pv n k) ∨ Conn (nx n) (pv n) S i (nx n k)

theorem conn_add (C : Cyc n (nx n) (pv n)) (hS : ∀ i, S i → i < n) {k : Nat} (hk : k < n) {i j : Nat} (h : Conn (nx n) (pv n) (fun x => S x ∨ x = k) i j) :
    Conn (nx n) (pv n) S i j ∨ (Tch n S k i ∧ Tch n S k j) := by
  have step : ∀ j j' : Nat, (j' = nx n j ∨ j' = pv n j) → (S j ∨ j = k) → (S j' ∨ j' = k) → (Conn (nx n) (pv n) S i j ∨ (Tch n S k i ∧ Tch n S k j)) → (Conn (nx n) (pv n) S i j' ∨ (Tch n S k i ∧ Tch n S k j')) := by
    intro j j' hjj hj hj' ih
    by_cases e' : j' = k
    · rcases ih with c | c
      · refine .inr ⟨?_, .inl e'⟩
        have hjn := hS _ c.right
        rcases hjj with q | q
        · have : pv n k = j := by rw [← e', q]; exact C.ts j hjn
          exact .inr (.inl (by rw [this]; exact c))
        · have : nx n k = j := by rw [← e', q]; exact C.st j hjn
          exact .inr (.inr (by rw [this]; exact c))
      · exact .inr ⟨c.1, .inl e'⟩
    · have s' : S j' := hj'.resolve_right e'
      rcases ih with c | c
      · refine .inl ?_
        rcases hjj with q | q
        · rw [q] at s' ⊢; exact c.fwd s'
        · rw [q] at s' ⊢; exact c.bwd s'
      · refine .inr ⟨c.1, ?_⟩
        have up : ∀ t, Conn (nx n) (pv n) S j t → Conn (nx n) (pv n) S j' t := fun t ct => by
          have hjj' : Conn (nx n) (pv n) S j j' := by
            rcases hjj with q | q
            · rw [q] at s' ⊢; exact (Conn.refl ct.left).fwd s'
            · rw [q] at s' ⊢; exact (Conn.refl ct.left).bwd s'
          exact (hjj'.symm C hS).trans ct
        rcases c.2 with e | e | e
        · rcases hjj with q | q
          · rw [e] at q; exact .inr (.inr (by rw [← q]; exact .refl s'))
          · rw [e] at q; exact .inr (.inl (by rw [← q]; exact .refl s'))
        · exact .inr (.inl (up _ e))
        · exact .inr (.inr (up _ e))
  induction h with
  | refl h =>
    rcases h with h | h
    · exact .inl (.refl h)
    · exact .inr ⟨.inl h, .inl h⟩
  | fwd h hs ih => exact step _ _ (.inl rfl) h.right hs ih
  | bwd h hs ih => exact step _ _ (.inr rfl) h.right hs ih

theorem Own.add (O : SO lt) (C : Cyc n (nx n) (pv n)) (hS : ∀ i, S i → i < n) (I : Own lt n S ow) {k e : Nat} {ow' : List (Option Nat)} (hk : k < n) (hkS : ¬ S k) (len : ow'.length = n)
    (he : Conn (nx n) (pv n) (fun x => S x ∨ x = k) k e) (hmin : ∀ j, Tch n S k j → lt j e = false)
    (hkk : ow'.getD k none = some e) (hT : ∀ i, i < n → i ≠ k → Tch n S k i → ow'.getD i none = some e) (hN : ∀ i, i < n → i ≠ k → ¬ Tch n S k i → ow'.getD i none = ow.getD i none) :
    Own lt n (fun x => S x ∨ x = k) ow' := by
  have hS' : ∀ i, (fun x => S x ∨ x = k) i → i < n := fun i h => h.elim (hS i) fun e => e ▸ hk
  have S_of : ∀ i, Tch n S k i → S i ∨ i = k := fun i h => h.elim .inr fun h => .inl (h.elim (·.left) (·.left))
  have toK : ∀ i, Tch n S k i → Conn (nx n) (pv n) (fun x => S x ∨ x = k) i k := by
    intro i h
    have sub : ∀ x, S x → (fun x => S x ∨ x = k) x := fun _ h => .inl h
    rcases h with h | h | h
    · subst h; exact .refl (.inr rfl)
    · have := (h.mono sub).fwd (by show S (nx n (pv n k)) ∨ nx n (pv n k) = k; rw [C.st k hk]; exact .inr rfl)
      rw [C.st k hk] at this
      exact this
    · have := (h.mono sub).bwd (by show S (pv n (nx n k)) ∨ pv n (nx n k) = k; rw [C.ts k hk]; exact .inr rfl)
      rw [C.ts k hk] at this
      exact this
  have minT : ∀ i, Tch n S k i → MinC lt (nx n) (pv n) (fun x => S x ∨ x = k) i e := by
    intro i hi
    refine ⟨(toK i hi).trans he, fun j hj => hmin j ?_⟩
    rcases conn_add C hS hk hj with c | c
    · rcases hi with h | h | h
      · subst h; exact absurd c.left hkS
      · exact .inr (.inl ((c.symm C hS).trans h))
      · exact .inr (.inr ((c.symm C hS).trans h))
    · exact c.2
  refine ⟨len, fun i hi => ?_, fun i m hi hm => ?_⟩
  · by_cases e1 : i = k
    · subst e1; rw [hkk]; simp
    · by_cases t : Tch n S k i
      · rw [hT i hi e1 t]
        simp only [reduceCtorEq, false_iff, Classical.not_not]
        exact S_of i t
      · rw [hN i hi e1 t, I.none_ i hi]
        simp [e1]
  · by_cases e1 : i = k
    · subst e1
      rw [hkk] at hm
      rw [← Option.some.inj hm]
      exact minT i (.inl rfl)
    · by_cases t : Tch n S k i
      · rw [hT i hi e1 t] at hm
        rw [← Option.some.inj hm]
        exact minT i t
      · rw [hN i hi e1 t] at hm
        have M := I.some_ i m hi hm
        refine ⟨M.1.mono fun _ h => .inl h, fun j hj => ?_⟩
        rcases conn_add C hS hk hj with c | c
        · exact M.2 j c
        · exact absurd c.1 t
end

/-- one turn, told by its case -/
theorem bstep_nn {lt : Nat → Nat → Bool} {n k : Nat} {st : List (Option Nat) × List (Nat × Nat)} (h1 : st.1.getD (pv n k) none = none) (h2 : st.1.getD (nx n k) none = none) :
    bstep lt n st k = (st.1.set k (some k), st.2) := by unfold bstep; rw [h1, h2]
theorem bstep_sn {lt : Nat → Nat → Bool} {n k a : Nat} {st : List (Option Nat) × List (Nat × Nat)} (h1 : st.1.getD (pv n k) none = some a) (h2 : st.1.getD (nx n k) none = none) :
    bstep lt n st k = (st.1.set k (some a), st.2) := by unfold bstep; rw [h1, h2]
theorem bstep_ns {lt : Nat → Nat → Bool} {n k c : Nat} {st : List (Option Nat) × List (Nat × Nat)} (h1 : st.1.getD (pv n k) none = none) (h2 : st.1.getD (nx n k) none = some c) :
    bstep lt n st k = (st.1.set k (some c), st.2) := by unfold bstep; rw [h1, h2]
theorem bstep_ss {lt : Nat → Nat → Bool} {n k a : Nat} {st : List (Option Nat) × List (Nat × Nat)} (h1 : st.1.getD (pv n k) none = some a) (h2 : st.1.getD (nx n k) none = some a) :
    bstep lt n st k = (st.1.set k (some a), st.2) := by unfold bstep; rw [h1, h2]; simp
theorem bstep_sm {lt : Nat → Nat → Bool} {n k a c : Nat} {st : List (Option Nat) × List (Nat × Nat)} (h1 : st.1.getD (pv n k) none = some a) (h2 : st.1.getD (nx n k) none = some c) (hne : a ≠ c) :
    bstep lt n st k = ((st.1.set k (some (if lt c a = true then c else a))).map (fun x => if x = some (if lt a c = true then c else a) then some (if lt c a = true then c else a) else x),
      st.2 ++ [((if lt a c = true then c else a), k)]) := by unfold bstep; rw [h1, h2]; simp [hne]

section
variable {lt : Nat → Nat → Bool} {n : Nat}

/-- what holds when exactly the positions below k (in the order) have come, and k comes -/
structure At (lt : Nat → Nat → Bool) (n : Nat) (k : Nat) (ow : List (Option Nat)) : Prop where
  kn : k < n
  own : Own lt n (fun i => i < n ∧ lt i k = true) ow

theorem At.step (O : SO lt) (h2 : 2 ≤ n) {k : Nat} {st : List (Option Nat) × List (Nat × Nat)} (I : At lt n k st.1) :
    Own lt n (fun x => (x < n ∧ lt x k = true) ∨ x = k) (bstep lt n st k).1 := by
  have C := cyc_nx (n := n) (by omega)
  have hS : ∀ i, (fun i => i < n ∧ lt i k = true) i → i < n := fun _ h => h.1
  have hk := I.kn
  have hkS : ¬ (fun i => i < n ∧ lt i k = true) k := fun h => by have := h.2; rw [O.irr] at this; cases this
  have J := I.own
  have hkl : k < st.1.length := by rw [J.len]; exact hk
  have hp := C.tl k hk
  have hx := C.sl k hk
  have stepP : ∀ m, Conn (nx n) (pv n) (fun i => i < n ∧ lt i k = true) (pv n k) m → Conn (nx n) (pv n) (fun x => (x < n ∧ lt x k = true) ∨ x = k) k m := fun m c =>
    Conn.trans (.bwd (.refl (.inr rfl)) (.inl c.left)) (c.mono fun _ h => .inl h)
  have stepN : ∀ m, Conn (nx n) (pv n) (fun i => i < n ∧ lt i k = true) (nx n k) m → Conn (nx n) (pv n) (fun x => (x < n ∧ lt x k = true) ∨ x = k) k m := fun m c =>
    Conn.trans (.fwd (.refl (.inr rfl)) (.inl c.left)) (c.mono fun _ h => .inl h)
  cases e1 : st.1.getD (pv n k) none with
  | none =>
    have n1 := (J.none_ _ hp).mp e1
    cases e2 : st.1.getD (nx n k) none with
    | none =>
      have n2 := (J.none_ _ hx).mp e2
      rw [bstep_nn e1 e2]
      have tk : ∀ i, Tch n (fun i => i < n ∧ lt i k = true) k i → i = k := fun i t => t.elim id fun t => t.elim (fun c => absurd c.right n1) fun c => absurd c.right n2
      refine J.add O C hS hk hkS (by simp [J.len]) (.refl (.inr rfl)) (fun j t => by rw [tk j t]; exact O.irr _) (by rw [getD_setO _ _ _ _ hkl, if_pos rfl]) (fun i _ hne t => absurd (tk i t) hne) fun i _ hne _ => by
        rw [getD_setO _ _ _ _ hkl, if_neg (Ne.symm hne)]
    | some c =>
      rw [bstep_ns e1 e2]
      have M := J.some_ _ c hx e2
      refine J.add O C hS hk hkS (by simp [J.len]) (stepN c M.1) (fun j t => ?_) (by rw [getD_setO _ _ _ _ hkl, if_pos rfl]) (fun i hi hne t => ?_) fun i _ hne _ => by
        rw [getD_setO _ _ _ _ hkl, if_neg (Ne.symm hne)]
      · rcases t with t | t | t
        · subst t; exact O.asymm M.1.right.2
        · exact absurd t.right n1
        · exact M.2 j (t.symm C hS)
      · rw [getD_setO _ _ _ _ hkl, if_neg (Ne.symm hne)]
        rcases t with t | t | t
        · exact absurd t hne
        · exact absurd t.right n1
        · exact (J.conn O C hS hi hx e2).mp t
  | some a =>
    have Ma := J.some_ _ a hp e1
    cases e2 : st.1.getD (nx n k) none with
    | none =>
      have n2 := (J.none_ _ hx).mp e2
      rw [bstep_sn e1 e2]
      refine J.add O C hS hk hkS (by simp [J.len]) (stepP a Ma.1) (fun j t => ?_) (by rw [getD_setO _ _ _ _ hkl, if_pos rfl]) (fun i hi hne t => ?_) fun i _ hne _ => by
        rw [getD_setO _ _ _ _ hkl, if_neg (Ne.symm hne)]
      · rcases t with t | t | t
        · subst t; exact O.asymm Ma.1.right.2
        · exact Ma.2 j (t.symm C hS)
        · exact absurd t.right n2
      · rw [getD_setO _ _ _ _ hkl, if_neg (Ne.symm hne)]
        rcases t with t | t | t
        · exact absurd t hne
        · exact (J.conn O C hS hi hp e1).mp t
        · exact absurd t.right n2
    | some c =>
      have Mc := J.some_ _ c hx e2
      by_cases hac : a = c
      · subst hac
        rw [bstep_ss e1 e2]
        refine J.add O C hS hk hkS (by simp [J.len]) (stepP a Ma.1) (fun j t => ?_) (by rw [getD_setO _ _ _ _ hkl, if_pos rfl]) (fun i hi hne t => ?_) fun i _ hne _ => by
          rw [getD_setO _ _ _ _ hkl, if_neg (Ne.symm hne)]
        · rcases t with t | t | t
          · subst t; exact O.asymm Ma.1.right.2
          · exact Ma.2 j (t.symm C hS)
          · exact Mc.2 j (t.symm C hS)
        · rw [getD_setO _ _ _ _ hkl, if_neg (Ne.symm hne)]
          rcases t with t | t | t
          · exact absurd t hne
          · exact (J.conn O C hS hi hp e1).mp t
          · exact (J.conn O C hS hi hx e2).mp t
      · rw [bstep_sm e1 e2 hac]
        -- elder and younger
        have key : ∀ el yo : Nat, (el = a ∧ yo = c ∨ el = c ∧ yo = a) → lt el yo = true →
            Own lt n (fun x => (x < n ∧ lt x k = true) ∨ x = k) ((st.1.set k (some el)).map fun x => if x = some yo then some el else x) := by
          intro el yo hey hlt
          have hne' : el ≠ yo := O.ne hlt
          have kl' : ∀ i, i < n → i < (st.1.set k (some el)).length := fun i hi => by rw [List.length_set, J.len]; exact hi
          refine J.add O C hS hk hkS (by simp [J.len]) (e := el) (hey.elim (fun h => h.1 ▸ stepP a Ma.1) fun h => h.1 ▸ stepN c Mc.1) (fun j t => ?_) ?_ (fun i hi hne t => ?_) fun i hi hne t => ?_
          · rcases t with t | t | t
            · subst t
              rcases hey with h | h
              · rw [h.1]; exact O.asymm Ma.1.right.2
              · rw [h.1]; exact O.asymm Mc.1.right.2
            · have h1 := Ma.2 j (t.symm C hS)
              rcases hey with h | h
              · rw [h.1]; exact h1
              · rw [← h.2] at h1; exact O.asymm (O.lt_of_lt_le hlt h1)
            · have h1 := Mc.2 j (t.symm C hS)
              rcases hey with h | h
              · rw [← h.2] at h1; exact O.asymm (O.lt_of_lt_le hlt h1)
              · rw [h.1]; exact h1
          · rw [getD_mapO _ _ _ (kl' k hk), getD_setO _ _ _ _ hkl, if_pos rfl]
            split <;> rfl
          · rw [getD_mapO _ _ _ (kl' i hi), getD_setO _ _ _ _ hkl, if_neg (Ne.symm hne)]
            rcases t with t | t | t
            · exact absurd t hne
            · rw [(J.conn O C hS hi hp e1).mp t]
              rcases hey with h | h
              · rw [if_neg (by rw [← h.1]; simpa using hne'), h.1]
              · rw [if_pos (by rw [h.2])]
            · rw [(J.conn O C hS hi hx e2).mp t]
              rcases hey with h | h
              · rw [if_pos (by rw [h.2])]
              · rw [if_neg (by rw [← h.1]; simpa using hne'), h.1]
          · rw [getD_mapO _ _ _ (kl' i hi), getD_setO _ _ _ _ hkl, if_neg (Ne.symm hne), if_neg]
            intro q
            apply t
            rcases hey with h | h
            · rw [h.2] at q; exact .inr (.inr ((J.conn O C hS hi hx e2).mpr q))
            · rw [h.2] at q; exact .inr (.inl ((J.conn O C hS hi hp e1).mpr q))
        rcases O.tot a c hac with h | h
        · rw [if_pos h, if_neg (by rw [O.asymm h]; simp)]
          exact key a c (.inl ⟨rfl, rfl⟩) h
        · rw [if_pos h, if_neg (by rw [O.asymm h]; simp)]
          exact key c a (.inr ⟨rfl, rfl⟩) h

/-- the bars that end at k -/
theorem At.bar_iff (O : SO lt) (h2 : 2 ≤ n) {k b : Nat} {ow : List (Option Nat)} (I : At lt n k ow) (hb : b < n) :
    Bar lt n b k ↔ (∃ a, ow.getD (pv n k) none = some b ∧ ow.getD (nx n k) none = some a ∧ lt a b = true) ∨ ∃ a, ow.getD (nx n k) none = some b ∧ ow.getD (pv n k) none = some a ∧ lt a b = true := by
  have C := cyc_nx (n := n) (by omega)
  have hk := I.kn
  have J := I.own
  have hp := C.tl k hk
  have hx := C.sl k hk
  have half : ∀ (p x : Nat), p < n → x < n → ((MinC lt (nx n) (pv n) (fun i => i < n ∧ lt i k = true) p b ∧ ∃ a, Conn (nx n) (pv n) (fun i => i < n ∧ lt i k = true) x a ∧ lt a b = true) ↔
      ∃ a, ow.getD p none = some b ∧ ow.getD x none = some a ∧ lt a b = true) := by
    intro p x hp hx
    constructor
    · rintro ⟨h1, a, h2, h3⟩
      obtain ⟨c, hc⟩ := J.some_of hx h2.left
      exact ⟨c, (J.iff O hp).mpr h1, hc, O.lt_of_le_lt ((J.some_ _ _ hx hc).2 a h2) h3⟩
    · rintro ⟨a, h1, h2, h3⟩
      exact ⟨(J.iff O hp).mp h1, a, (J.some_ _ _ hx h2).1, h3⟩
  have w1 : Win lt (nx n) (pv n) b k ↔ ∃ a, ow.getD (pv n k) none = some b ∧ ow.getD (nx n k) none = some a ∧ lt a b = true :=
    ⟨fun w => (half _ _ hp hx).mp (joins_of_win O C hb w), fun h => win_of_joins O C hk ((half _ _ hp hx).mpr h)⟩
  have sw : ∀ {i j : Nat}, Conn (pv n) (nx n) (fun i => i < n ∧ lt i k = true) i j ↔ Conn (nx n) (pv n) (fun i => i < n ∧ lt i k = true) i j := ⟨Conn.swap, Conn.swap⟩
  have w2 : Win lt (pv n) (nx n) b k ↔ ∃ a, ow.getD (nx n k) none = some b ∧ ow.getD (pv n k) none = some a ∧ lt a b = true := by
    rw [← half _ _ hx hp]
    have e : Joins lt n (pv n) (nx n) b k ↔ (MinC lt (nx n) (pv n) (fun i => i < n ∧ lt i k = true) (nx n k) b ∧ ∃ a, Conn (nx n) (pv n) (fun i => i < n ∧ lt i k = true) (pv n k) a ∧ lt a b = true) := by
      unfold Joins MinC
      constructor
      · rintro ⟨⟨h1, h2⟩, a, h3, h4⟩
        exact ⟨⟨h1.swap, fun j hj => h2 j hj.swap⟩, a, h3.swap, h4⟩
      · rintro ⟨⟨h1, h2⟩, a, h3, h4⟩
        exact ⟨⟨h1.swap, fun j hj => h2 j hj.swap⟩, a, h3.swap, h4⟩
    rw [← e]
    exact ⟨fun w => joins_of_win O C.swap hb w, fun h => win_of_joins O C.swap hk h⟩
  unfold Bar
  rw [w1, w2]

/-- what is true behind the first turns -/
structure Upto (lt : Nat → Nat → Bool) (n : Nat) (pre : List Nat) (st : List (Option Nat) × List (Nat × Nat)) : Prop where
  own : Own lt n (fun i => i ∈ pre) st.1
  bars : ∀ b k, (b, k) ∈ st.2 ↔ b < n ∧ k ∈ pre ∧ Bar lt n b k
  nodup : (st.2.map (·.2)).Sublist pre

theorem Own.congr {S S' : Nat → Prop} {ow : List (Option Nat)} (I : Own lt n S ow) (h : ∀ i, S i ↔ S' i) : Own lt n S' ow := by
  have : S = S' := funext fun i => propext (h i)
  rw [← this]; exact I

theorem Upto.step (O : SO lt) (h2 : 2 ≤ n) {pre : List Nat} {k : Nat} {st : List (Option Nat) × List (Nat × Nat)} (U : Upto lt n pre st) (hk : k < n) (hpre : ∀ i, i ∈ pre ↔ i < n ∧ lt i k = true) :
    Upto lt n (pre ++ [k]) (bstep lt n st k) := by
  have I : At lt n k st.1 := ⟨hk, U.own.congr hpre⟩
  have B := fun b hb => I.bar_iff O h2 (b := b) hb
  have C := cyc_nx (n := n) (by omega)
  have hp := C.tl k hk
  have hx := C.sl k hk
  have mn : ∀ {i m}, i < n → st.1.getD i none = some m → m < n := fun hi h => (I.own.some_ _ _ hi h).1.right.1
  refine ⟨(I.step O h2).congr fun i => ?_, ?_, ?_⟩
  · rw [List.mem_append, List.mem_singleton, hpre]
  · intro b c
    have old : (b, c) ∈ st.2 ↔ b < n ∧ c ∈ pre ∧ Bar lt n b c := U.bars b c
    have noneOf : (∀ b, b < n → ¬ Bar lt n b k) → (bstep lt n st k).2 = st.2 → ((b, c) ∈ (bstep lt n st k).2 ↔ b < n ∧ c ∈ pre ++ [k] ∧ Bar lt n b c) := by
      intro h1 h2
      rw [h2, old, List.mem_append, List.mem_singleton]
      constructor
      · rintro ⟨x, y, z⟩; exact ⟨x, .inl y, z⟩
      · rintro ⟨x, y | rfl, z⟩
        · exact ⟨x, y, z⟩
        · exact absurd z (h1 b x)
    cases e1 : st.1.getD (pv n k) none with
    | none =>
      refine noneOf (fun b hb h => ?_) ?_
      · rw [B b hb, e1] at h
        simp at h
      · cases e2 : st.1.getD (nx n k) none with
        | none => rw [bstep_nn e1 e2]
        | some x => rw [bstep_ns e1 e2]
    | some a =>
      cases e2 : st.1.getD (nx n k) none with
      | none =>
        refine noneOf (fun b hb h => ?_) (by rw [bstep_sn e1 e2])
        rw [B b hb, e1, e2] at h
        simp at h
      | some x =>
        by_cases hax : a = x
        · subst hax
          refine noneOf (fun b hb h => ?_) (by rw [bstep_ss e1 e2])
          rw [B b hb, e1, e2] at h
          simp only [Option.some.injEq] at h
          rcases h with ⟨y, rfl, rfl, h⟩ | ⟨y, rfl, rfl, h⟩ <;> (rw [O.irr] at h; cases h)
        · rw [bstep_sm e1 e2 hax, List.mem_append, List.mem_append, List.mem_singleton, List.mem_singleton, old]
          have hb : ∀ b, b < n → (Bar lt n b k ↔ b = if lt a x = true then x else a) := by
            intro b hb
            rw [B b hb, e1, e2]
            simp only [Option.some.injEq]
            rcases O.tot a x hax with h | h
            · rw [if_pos h]
              constructor
              · rintro (⟨y, rfl, rfl, q⟩ | ⟨y, rfl, rfl, _⟩)
                · rw [O.asymm h] at q; cases q
                · rfl
              · rintro rfl; exact .inr ⟨a, rfl, rfl, h⟩
            · rw [if_neg (by rw [O.asymm h]; simp)]
              constructor
              · rintro (⟨y, rfl, rfl, _⟩ | ⟨y, rfl, rfl, q⟩)
                · rfl
                · rw [O.asymm h] at q; cases q
              · rintro rfl; exact .inl ⟨x, rfl, rfl, h⟩
          have hyn : (if lt a x = true then x else a) < n := by split; exact mn hx e2; exact mn hp e1
          constructor
          · rintro (⟨x1, y1, z1⟩ | q)
            · exact ⟨x1, .inl y1, z1⟩
            · obtain ⟨rfl, rfl⟩ := Prod.mk.inj q
              exact ⟨hyn, .inr rfl, (hb _ hyn).mpr rfl⟩
          · rintro ⟨x1, y1 | rfl, z1⟩
            · exact .inl ⟨x1, y1, z1⟩
            · exact .inr (by rw [(hb b x1).mp z1])
  · have s1 : (st.2.map (·.2)).Sublist (pre ++ [k]) := U.nodup.trans (List.sublist_append_left pre [k])
    cases e1 : st.1.getD (pv n k) none with
    | none =>
      cases e2 : st.1.getD (nx n k) none with
      | none => rw [bstep_nn e1 e2]; exact s1
      | some x => rw [bstep_ns e1 e2]; exact s1
    | some a =>
      cases e2 : st.1.getD (nx n k) none with
      | none => rw [bstep_sn e1 e2]; exact s1
      | some x =>
        by_cases hax : a = x
        · subst hax; rw [bstep_ss e1 e2]; exact s1
        · rw [bstep_sm e1 e2 hax, List.map_append]
          exact List.Sublist.append U.nodup (List.Sublist.refl _)

theorem upto_nil : Upto lt n [] (List.replicate n none, []) := by
  refine ⟨⟨by simp, fun i hi => by simp [List.getD_eq_getElem?_getD, hi], fun i m hi h => ?_⟩, fun b k => by simp, by simp⟩
  simp [List.getD_eq_getElem?_getD, hi] at h
end

/-- the sorted row, and what is true of each of its turns -/
structure Row (lt : Nat → Nat → Bool) (n : Nat) (ds : List Nat) : Prop where
  perm : ds.Perm (List.range n)
  sorted : ds.Pairwise fun a b => lt a b = true

section
variable {lt : Nat → Nat → Bool} {n : Nat} {ds : List Nat}
theorem Row.mem (R : Row lt n ds) {i : Nat} : i ∈ ds ↔ i < n := by rw [R.perm.mem_iff, List.mem_range]
theorem Row.pre (O : SO lt) (R : Row lt n ds) {pre suf : List Nat} {k : Nat} (e : ds = pre ++ k :: suf) (i : Nat) : i ∈ pre ↔ i < n ∧ lt i k = true := by
  have hs := R.sorted
  rw [e, List.pairwise_append] at hs
  obtain ⟨_, h1, h2⟩ := hs
  constructor
  · intro h
    exact ⟨R.mem.mp (by rw [e]; exact List.mem_append_left _ h), h2 i h k (List.mem_cons_self ..)⟩
  · rintro ⟨h, h'⟩
    have := R.mem.mpr h
    rw [e, List.mem_append, List.mem_cons] at this
    rcases this with q | q | q
    · exact q
    · subst q; rw [O.irr] at h'; cases h'
    · have := (List.pairwise_cons.mp h1).1 i q
      rw [O.asymm this] at h'; cases h'
/-- any claim that goes from turn to turn -/
theorem Row.run (O : SO lt) (R : Row lt n ds) {P : List Nat → List (Option Nat) × List (Nat × Nat) → Prop} (h0 : P [] (List.replicate n none, []))
    (hs : ∀ pre k st, k < n → (∀ i, i ∈ pre ↔ i < n ∧ lt i k = true) → P pre st → P (pre ++ [k]) (bstep lt n st k)) : P ds (bruns lt n ds) := by
  have go : ∀ (suf pre : List Nat) (st : List (Option Nat) × List (Nat × Nat)), ds = pre ++ suf → P pre st → P ds (suf.foldl (bstep lt n) st) := by
    intro suf
    induction suf with
    | nil => intro pre st e h; rw [List.append_nil] at e; subst e; exact h
    | cons k suf ih =>
      intro pre st e h
      refine ih (pre ++ [k]) _ (by rw [e]; simp) (hs pre k st ?_ (R.pre O e) h)
      exact R.mem.mp (by rw [e]; simp)
  exact go ds [] _ rfl h0
theorem Row.upto (O : SO lt) (h2 : 2 ≤ n) (R : Row lt n ds) : Upto lt n ds (bruns lt n ds) :=
  R.run O upto_nil fun _ _ _ hk hp U => U.step O h2 hk hp
theorem Row.nodup (O : SO lt) (R : Row lt n ds) : ds.Nodup := R.sorted.imp fun h => O.ne h
end

/-- THE FIRST: the bars from below are the bars from above, turned -/
theorem bars_swap {lt : Nat → Nat → Bool} {n : Nat} {ds es : List Nat} (O : SO lt) (h2 : 2 ≤ n) (R : Row lt n ds) (R' : Row (fun a b => lt b a) n es) :
    (bruns lt n ds).2.Perm ((bruns (fun a b => lt b a) n es).2.map fun p => (p.2, p.1)) := by
  have U := R.upto O h2
  have U' := R'.upto O.flip h2
  have nd : (bruns lt n ds).2.Nodup := by
    have h := (R.nodup O).sublist U.nodup
    exact (List.pairwise_map.mp h).imp fun h e => h (congrArg _ e)
  have nd' : ((bruns (fun a b => lt b a) n es).2.map fun p => (p.2, p.1)).Nodup := by
    have h := (R'.nodup O.flip).sublist U'.nodup
    have h3 : (((bruns (fun a b => lt b a) n es).2.map fun p => (p.2, p.1)).map (·.1)).Nodup := by
      rw [List.map_map]; exact h
    exact (List.pairwise_map.mp h3).imp fun h e => h (congrArg _ e)
  rw [List.perm_iff_count]
  rintro ⟨b, k⟩
  rw [nd.count, nd'.count]
  have e : (b, k) ∈ (bruns lt n ds).2 ↔ (b, k) ∈ ((bruns (fun a b => lt b a) n es).2.map fun p => (p.2, p.1)) := by
    rw [U.bars, List.mem_map]
    constructor
    · rintro ⟨h, hk, B⟩
      have hk' := R.mem.mp hk
      exact ⟨(k, b), (U'.bars k b).mpr ⟨hk', R'.mem.mpr h, (Bar.iff_flip (by omega) h hk').mp B⟩, rfl⟩
    · rintro ⟨⟨k', b'⟩, h, q⟩
      obtain ⟨rfl, rfl⟩ := Prod.mk.inj q
      obtain ⟨h1, h3, B⟩ := (U'.bars _ _).mp h
      have h3' := R'.mem.mp h3
      exact ⟨h3', R.mem.mpr h1, (Bar.iff_flip (by omega) h3' h1).mpr B⟩
  by_cases q : (b, k) ∈ (bruns lt n ds).2
  · rw [if_pos q, if_pos (e.mp q)]
  · rw [if_neg q, if_neg fun h => q (e.mpr h)]

end Mine
end

section
set_option autoImplicit false
namespace Mine

/-! ## sums -/
def isum (l : List Nat) (f : Nat → Int) : Int := (l.map f).sum
theorem isum_nil (f : Nat → Int) : isum [] f = 0 := rfl
theorem isum_cons (a : Nat) (l : List Nat) (f : Nat → Int) : isum (a :: l) f = f a + isum l f := by simp [isum]
theorem isum_append (l l' : List Nat) (f : Nat → Int) : isum (l ++ l') f = isum l f + isum l' f := by simp [isum]
theorem isum_congr {l : List Nat} {f g : Nat → Int} (h : ∀ x ∈ l, f x = g x) : isum l f = isum l g := by
  unfold isum; rw [List.map_congr_left h]
theorem isum_perm {l l' : List Nat} (h : l.Perm l') (f : Nat → Int) : isum l f = isum l' f := by
  induction h with
  | nil => rfl
  | cons x _ ih => rw [isum_cons, isum_cons, ih]
  | swap x y l => rw [isum_cons, isum_cons, isum_cons, isum_cons]; omega
  | trans _ _ ih ih' => rw [ih, ih']
theorem isum_add (l : List Nat) (f g : Nat → Int) : isum l (fun x => f x + g x) = isum l f + isum l g := by
  induction l with
  | nil => rfl
  | cons a l ih => rw [isum_cons, isum_cons, isum_cons, ih]; omega
theorem isum_sub (l : List Nat) (f g : Nat → Int) : isum l (fun x => f x - g x) = isum l f - isum l g := by
  induction l with
  | nil => rfl
  | cons a l ih => rw [isum_cons, isum_cons, isum_cons, ih]; omega
theorem isum_mul (l : List Nat) (c : Int) (f : Nat → Int) : isum l (fun x => c * f x) = c * isum l f := by
  induction l with
  | nil => simp [isum]
  | cons a l ih => rw [isum_cons, isum_cons, ih, Int.mul_add]
theorem isum_zero {l : List Nat} {f : Nat → Int} (h : ∀ x ∈ l, f x = 0) : isum l f = 0 := by
  induction l with
  | nil => rfl
  | cons a l ih => rw [isum_cons, h a (List.mem_cons_self ..), ih fun x hx => h x (List.mem_cons_of_mem _ hx)]; rfl
/-- only at one place another number -/
theorem isum_one {l : List Nat} {f g : Nat → Int} {k : Nat} (hl : l.Nodup) (hk : k ∈ l) (h : ∀ x ∈ l, x ≠ k → f x = g x) : isum l f = isum l g + (f k - g k) := by
  induction l with
  | nil => cases hk
  | cons a l ih =>
    rw [isum_cons, isum_cons]
    have hn := List.nodup_cons.mp hl
    rcases List.mem_cons.mp hk with rfl | hk
    · rw [isum_congr fun x hx => h x (List.mem_cons_of_mem _ hx) (by rintro rfl; exact hn.1 hx)]
      omega
    · have := ih hn.2 hk fun x hx hne => h x (List.mem_cons_of_mem _ hx) hne
      rw [h a (List.mem_cons_self ..) (by rintro rfl; exact hn.1 hk), this]
      omega
theorem isum_rot (n : Nat) (F : Nat → Int) : isum (List.range n) (fun k => F (nx n k)) = isum (List.range n) F := by
  cases n with
  | zero => rfl
  | succ m =>
    have h1 : isum (List.range (m + 1)) (fun k => F (nx (m + 1) k)) = isum (List.range m) (fun k => F (k + 1)) + F 0 := by
      rw [List.range_succ, isum_append, isum_cons, isum_nil, nx_last rfl]
      rw [isum_congr (l := List.range m) (f := fun k => F (nx (m + 1) k)) (g := fun k => F (k + 1)) fun k hk => by
        (try dsimp only); rw [nx_of (by have := List.mem_range.mp hk; omega)]]
      omega
    have h2 : isum (List.range (m + 1)) F = F 0 + isum (List.range m) (fun k => F (k + 1)) := by
      rw [List.range_succ_eq_map, isum_cons]
      unfold isum
      rw [List.map_map]
      rfl
    rw [h1, h2]; omega

/-! ## weights -/
section
variable {lt : Nat → Nat → Bool} {n : Nat} {ds : List Nat}

def before (lt : Nat → Nat → Bool) (n k : Nat) : Int := (if lt (pv n k) k = true then 1 else 0) + (if lt (nx n k) k = true then 1 else 0)
def roots (ow : List (Option Nat)) (n : Nat) (g : Nat → Int) : Int := isum (List.range n) fun m => if ow.getD m none = some m then g m else 0
def barSum (bs : List (Nat × Nat)) (g : Nat → Int) : Int := (bs.map fun b => g b.2 - g b.1).sum
theorem barSum_snoc (bs : List (Nat × Nat)) (y k : Nat) (g : Nat → Int) : barSum (bs ++ [(y, k)]) g = barSum bs g + (g k - g y) := by simp [barSum]

structure Weigh (lt : Nat → Nat → Bool) (n : Nat) (pre : List Nat) (st : List (Option Nat) × List (Nat × Nat)) : Prop where
  upto : Upto lt n pre st
  eq : ∃ (c : Int) (e : Nat), (c = 0 ∨ (c = 1 ∧ e < n ∧ (∀ i, i < n → i ∈ pre) ∧ ∀ i, i < n → i ≠ e → lt i e = true)) ∧
    ∀ g : Nat → Int, isum pre (fun k => g k * (before lt n k - 1)) = barSum st.2 g - roots st.1 n g + c * g e

theorem weigh_nil : Weigh lt n [] (List.replicate n none, []) := by
  refine ⟨upto_nil, 0, 0, .inl rfl, fun g => ?_⟩
  have : roots (List.replicate n none) n g = 0 := isum_zero fun m hm => by
    have hm' := List.mem_range.mp hm
    simp [List.getD_eq_getElem?_getD, hm']
  rw [this]
  simp [isum, barSum]

theorem Weigh.step (O : SO lt) (h2 : 2 ≤ n) {pre : List Nat} {k : Nat} {st : List (Option Nat) × List (Nat × Nat)} (W : Weigh lt n pre st) (hk : k < n) (hpre : ∀ i, i ∈ pre ↔ i < n ∧ lt i k = true) :
    Weigh lt n (pre ++ [k]) (bstep lt n st k) := by
  have C := cyc_nx (n := n) (by omega)
  have hp := C.tl k hk
  have hx := C.sl k hk
  have hkp : k ∉ pre := fun h => by have := ((hpre k).mp h).2; rw [O.irr] at this; cases this
  have J := W.upto.own
  have hS : ∀ i, (fun i => i ∈ pre) i → i < n := fun i h => ((hpre i).mp h).1
  have hkl : k < st.1.length := by rw [J.len]; exact hk
  obtain ⟨c, e, hc, heq⟩ := W.eq
  have hc0 : c = 0 := hc.elim id fun h => absurd (h.2.2.1 k hk) hkp
  subst hc0
  -- the count of earlier neighbours
  have bp : lt (pv n k) k = true ↔ pv n k ∈ pre := by rw [hpre]; exact ⟨fun h => ⟨hp, h⟩, And.right⟩
  have bx : lt (nx n k) k = true ↔ nx n k ∈ pre := by rw [hpre]; exact ⟨fun h => ⟨hx, h⟩, And.right⟩
  have inp : ∀ {i}, i < n → (st.1.getD i none = none ↔ i ∉ pre) := fun hi => J.none_ _ hi
  have kk : st.1.getD k none = none := (inp hk).mpr hkp
  have rt : ∀ {i m}, i < n → st.1.getD i none = some m → st.1.getD m none = some m ∧ m ∈ pre ∧ m ≠ k ∧ m < n := fun hi h => by
    have M := J.some_ _ _ hi h
    have hm : _ ∈ pre := M.1.right
    exact ⟨J.root O C hS hi h, hm, fun q => hkp (q ▸ hm), hS _ hm⟩
  -- the sum of the first, one more
  have lhs : ∀ g : Nat → Int, isum (pre ++ [k]) (fun k => g k * (before lt n k - 1)) = barSum st.2 g - roots st.1 n g + g k * (before lt n k - 1) := fun g => by
    rw [isum_append, isum_cons, isum_nil, heq g]; omega
  -- a turn that gives k an owner that stands already
  have same : ∀ m : Nat, m ≠ k → ∀ g : Nat → Int, roots (st.1.set k (some m)) n g = roots st.1 n g := fun m hm g => by
    refine isum_congr fun x _ => ?_
    (try dsimp only)
    rw [getD_setO _ _ _ _ hkl]
    by_cases q : k = x
    · subst q; rw [if_pos rfl, kk]; simp [hm]
    · rw [if_neg q]
  refine ⟨W.upto.step O h2 hk hpre, ?_⟩
  cases e1 : st.1.getD (pv n k) none with
  | none =>
    have n1 : ¬ lt (pv n k) k = true := fun h => ((inp hp).mp e1) (bp.mp h)
    cases e2 : st.1.getD (nx n k) none with
    | none =>
      have n2 : ¬ lt (nx n k) k = true := fun h => ((inp hx).mp e2) (bx.mp h)
      refine ⟨0, e, .inl rfl, fun g => ?_⟩
      rw [lhs, bstep_nn e1 e2]
      (try dsimp only)
      have : roots (st.1.set k (some k)) n g = roots st.1 n g + (g k - 0) := by
        unfold roots
        rw [isum_one (l := List.range n) (k := k) (f := fun m => if (st.1.set k (some k)).getD m none = some m then g m else 0) (g := fun m => if st.1.getD m none = some m then g m else 0) List.nodup_range (List.mem_range.mpr hk) fun x _ hne => by
          (try dsimp only); rw [getD_setO _ _ _ _ hkl, if_neg (Ne.symm hne)]]
        (try dsimp only)
        rw [getD_setO _ _ _ _ hkl, if_pos rfl, if_pos rfl, kk]
        simp
      rw [this]
      have : before lt n k = 0 := by unfold before; rw [if_neg n1, if_neg n2]; rfl
      rw [this]
      have : g k * (0 - 1) = - g k := by omega
      rw [this]; omega
    | some m =>
      have y2 : lt (nx n k) k = true := bx.mpr (Classical.byContradiction fun h => by rw [(inp hx).mpr h] at e2; cases e2)
      refine ⟨0, e, .inl rfl, fun g => ?_⟩
      rw [lhs, bstep_ns e1 e2, same m (rt hx e2).2.2.1]
      have : before lt n k = 1 := by unfold before; rw [if_neg n1, if_pos y2]; rfl
      rw [this]; simp
  | some a =>
    have y1 : lt (pv n k) k = true := bp.mpr (Classical.byContradiction fun h => by rw [(inp hp).mpr h] at e1; cases e1)
    cases e2 : st.1.getD (nx n k) none with
    | none =>
      have n2 : ¬ lt (nx n k) k = true := fun h => ((inp hx).mp e2) (bx.mp h)
      refine ⟨0, e, .inl rfl, fun g => ?_⟩
      rw [lhs, bstep_sn e1 e2, same a (rt hp e1).2.2.1]
      have : before lt n k = 1 := by unfold before; rw [if_pos y1, if_neg n2]; rfl
      rw [this]; simp
    | some x =>
      have y2 : lt (nx n k) k = true := bx.mpr (Classical.byContradiction fun h => by rw [(inp hx).mpr h] at e2; cases e2)
      have b2 : before lt n k = 2 := by unfold before; rw [if_pos y1, if_pos y2]; rfl
      by_cases hax : a = x
      · -- the ring closes
        subst hax
        have cn : Conn (nx n) (pv n) (fun i => i ∈ pre) (pv n k) (nx n k) := (J.conn O C hS hp hx e2).mpr e1
        obtain ⟨m, em, hm⟩ := cn.from_next C hk hS hkp
        have all : ∀ y, it (pv n) y k = k ∨ ∃ z, z ≤ m ∧ it (pv n) y k = it (pv n) z (pv n k) := by
          intro y
          induction y with
          | zero => exact .inl rfl
          | succ y ih =>
            show pv n (it (pv n) y k) = k ∨ ∃ z, z ≤ m ∧ pv n (it (pv n) y k) = _
            rcases ih with q | ⟨z, hz, q⟩
            · rw [q]; exact .inr ⟨0, Nat.zero_le _, rfl⟩
            · rw [q]
              by_cases hzm : z < m
              · exact .inr ⟨z + 1, hzm, rfl⟩
              · rw [show z = m by omega, ← em]; exact .inl (C.ts k hk)
        have mem : ∀ i, i < n → i ≠ k → i ∈ pre := fun i hi hne => by
          obtain ⟨y, hy⟩ := C.rt k i hk hi
          rcases all y with q | ⟨z, hz, q⟩
          · exact absurd (hy.symm.trans q) hne
          · rw [← hy, q]; exact hm z hz
        refine ⟨1, k, .inr ⟨rfl, hk, fun i hi => ?_, fun i hi hne => ((hpre i).mp (mem i hi hne)).2⟩, fun g => ?_⟩
        · by_cases q : i = k
          · rw [q]; exact List.mem_append_right _ (List.mem_singleton.mpr rfl)
          · exact List.mem_append_left _ (mem i hi q)
        · rw [lhs, bstep_ss e1 e2, same a (rt hp e1).2.2.1, b2]; simp
      · refine ⟨0, e, .inl rfl, fun g => ?_⟩
        rw [lhs, bstep_sm e1 e2 hax, b2]
        have key : ∀ el yo : Nat, (el = a ∧ yo = x ∨ el = x ∧ yo = a) → el ≠ yo →
            roots ((st.1.set k (some el)).map fun x => if x = some yo then some el else x) n g = roots st.1 n g - g yo := by
          intro el yo hey hne'
          have kl' : ∀ i, i < n → i < (st.1.set k (some el)).length := fun i hi => by rw [List.length_set, J.len]; exact hi
          have rel : st.1.getD el none = some el ∧ el ≠ k := by
            rcases hey with h | h
            · rw [h.1]; exact ⟨(rt hp e1).1, (rt hp e1).2.2.1⟩
            · rw [h.1]; exact ⟨(rt hx e2).1, (rt hx e2).2.2.1⟩
          have ryo : st.1.getD yo none = some yo ∧ yo < n ∧ yo ≠ k := by
            rcases hey with h | h
            · rw [h.2]; exact ⟨(rt hx e2).1, (rt hx e2).2.2.2, (rt hx e2).2.2.1⟩
            · rw [h.2]; exact ⟨(rt hp e1).1, (rt hp e1).2.2.2, (rt hp e1).2.2.1⟩
          have e3 := isum_one (l := List.range n) (k := yo) (f := fun m => if ((st.1.set k (some el)).map fun x => if x = some yo then some el else x).getD m none = some m then g m else 0)
            (g := fun m => if st.1.getD m none = some m then g m else 0) List.nodup_range (List.mem_range.mpr ryo.2.1) fun z hz hne => by
              have hz' := List.mem_range.mp hz
              (try dsimp only)
              rw [getD_mapO _ _ _ (kl' z hz'), getD_setO _ _ _ _ hkl]
              by_cases q : k = z
              · subst q
                rw [if_pos rfl, kk]
                have : ¬ (if some el = some yo then some el else some el) = some k := by
                  simp [rel.2]
                rw [if_neg this]; simp
              · rw [if_neg q]
                by_cases q2 : st.1.getD z none = some yo
                · rw [q2, if_pos rfl]
                  have h3 : ¬ some el = some z := by
                    intro h
                    rw [← Option.some.inj h, rel.1] at q2
                    exact hne' (Option.some.inj q2)
                  have h4 : ¬ some yo = some z := fun h => hne (Option.some.inj h).symm
                  rw [if_neg h3, if_neg h4]
                · rw [if_neg q2]
          unfold roots
          rw [e3]
          (try dsimp only)
          rw [getD_mapO _ _ _ (kl' yo ryo.2.1), getD_setO _ _ _ _ hkl, if_neg (Ne.symm ryo.2.2), ryo.1, if_pos rfl, if_pos rfl, if_neg (by simpa using hne')]
          omega
        have fin : ∀ el yo : Nat, roots ((st.1.set k (some el)).map fun x => if x = some yo then some el else x) n g = roots st.1 n g - g yo →
            barSum st.2 g - roots st.1 n g + g k * (2 - 1) = barSum (st.2 ++ [(yo, k)]) g - roots ((st.1.set k (some el)).map fun x => if x = some yo then some el else x) n g + 0 * g e := by
          intro el yo h
          rw [h, barSum_snoc]
          omega
        rcases O.tot a x hax with h | h
        · rw [if_pos h, if_neg (by rw [O.asymm h]; simp)]
          exact fin a x (key a x (.inl ⟨rfl, rfl⟩) hax)
        · rw [if_pos h, if_neg (by rw [O.asymm h]; simp)]
          exact fin x a (key x a (.inr ⟨rfl, rfl⟩) (Ne.symm hax))

/-- the later end of each edge, summed up -/
theorem edges (O : SO lt) (h2 : 2 ≤ n) (g : Nat → Int) : isum (List.range n) (fun k => if lt k (nx n k) = true then g (nx n k) else g k) = isum (List.range n) fun k => g k * before lt n k := by
  have e1 : ∀ k ∈ List.range n, (if lt k (nx n k) = true then g (nx n k) else g k) = (if lt (pv n (nx n k)) (nx n k) = true then g (nx n k) else 0) + (if lt (nx n k) k = true then g k else 0) := fun k hk => by
    have hk' := List.mem_range.mp hk
    rw [pv_nx hk']
    rcases O.tot k (nx n k) (Ne.symm (nx_ne h2 hk')) with h | h
    · rw [if_pos h, if_pos h, if_neg (by rw [O.asymm h]; simp)]; omega
    · rw [if_pos h, if_neg (by rw [O.asymm h]; simp), if_neg (by rw [O.asymm h]; simp)]; omega
  rw [isum_congr e1, isum_add, isum_rot n fun j => if lt (pv n j) j = true then g j else 0, ← isum_add]
  refine isum_congr fun k _ => ?_
  unfold before
  by_cases h : lt (pv n k) k = true <;> by_cases h' : lt (nx n k) k = true <;> simp [h, h'] <;> omega

/-- THE WEIGHTS -/
theorem weights (O : SO lt) (h2 : 2 ≤ n) (R : Row lt n ds) : ∃ lo hi : Nat, lo < n ∧ hi < n ∧ (∀ i, i < n → i ≠ lo → lt lo i = true) ∧ (∀ i, i < n → i ≠ hi → lt i hi = true) ∧
    ∀ g : Nat → Int, isum (List.range n) (fun k => g k * (before lt n k - 1)) = barSum (bruns lt n ds).2 g + g hi - g lo := by
  have C := cyc_nx (n := n) (by omega)
  have W : Weigh lt n ds (bruns lt n ds) := R.run O weigh_nil fun _ _ _ hk hp W => W.step O h2 hk hp
  obtain ⟨c, e, hc, heq⟩ := W.eq
  have J := W.upto.own
  -- the least
  obtain ⟨lo, rest, hds⟩ : ∃ lo rest, ds = lo :: rest := by
    have := R.perm.length_eq
    rw [List.length_range] at this
    cases ds with
    | nil => simp at this; omega
    | cons a r => exact ⟨a, r, rfl⟩
  have hlo : lo < n := R.mem.mp (by rw [hds]; exact List.mem_cons_self ..)
  have hlow : ∀ i, i < n → i ≠ lo → lt lo i = true := fun i hi hne => by
    have := R.mem.mpr hi
    rw [hds] at this
    rcases List.mem_cons.mp this with q | q
    · exact absurd q hne
    · exact (List.pairwise_cons.mp (hds ▸ R.sorted)).1 i q
  have hroot : ∀ g : Nat → Int, roots (bruns lt n ds).1 n g = g lo := fun g => by
    have allc : ∀ i, i < n → (bruns lt n ds).1.getD i none = some lo := fun i hi => by
      have hin : ∀ i, i < n → (fun i => i ∈ ds) i := fun i hi => R.mem.mpr hi
      rw [J.iff O hi]
      obtain ⟨m, hm⟩ := C.rs i lo hi hlo
      refine ⟨?_, fun j hj => ?_⟩
      · rw [← hm]; exact Conn.arc m fun x _ => hin _ (C.itl x hi)
      · by_cases q : j = lo
        · rw [q]; exact O.irr _
        · exact O.asymm (hlow j (R.mem.mp hj.right) q)
    unfold roots
    have e3 := isum_one (l := List.range n) (k := lo) (f := fun m => if (bruns lt n ds).1.getD m none = some m then g m else 0) (g := fun _ => 0) List.nodup_range (List.mem_range.mpr hlo) fun z hz hne => by
      (try dsimp only)
      rw [allc z (List.mem_range.mp hz), if_neg fun h => hne (Option.some.inj h).symm]
    rw [e3, isum_zero fun _ _ => rfl, allc lo hlo, if_pos rfl]
    omega
  -- the ring has closed: by the weight one
  have hone := heq fun _ => 1
  rw [hroot, isum_perm R.perm] at hone
  have hb0 : barSum (bruns lt n ds).2 (fun _ => 1) = 0 := by
    unfold barSum
    generalize (bruns lt n ds).2 = l
    induction l with
    | nil => rfl
    | cons b l ih => rw [List.map_cons, List.sum_cons, ih]; rfl
  have hz : isum (List.range n) (fun k => 1 * (before lt n k - 1)) = 0 := by
    have h1 := edges (n := n) O h2 fun _ => 1
    have e4 : isum (List.range n) (fun k => 1 * (before lt n k - 1)) = isum (List.range n) (fun k => 1 * before lt n k) - isum (List.range n) (fun _ => 1) := by
      rw [← isum_sub]; exact isum_congr fun k _ => by omega
    rw [e4, ← h1]
    rw [isum_congr (l := List.range n) (f := fun k => if lt k (nx n k) = true then 1 else 1) (g := fun _ => 1) fun k _ => by (try dsimp only); split <;> rfl]
    omega
  rw [hz, hb0] at hone
  have hc1 : c = 1 := by omega
  have hc' := hc.resolve_left (by omega)
  subst hc1
  refine ⟨lo, e, hlo, hc'.2.1, hlow, hc'.2.2.2, fun g => ?_⟩
  rw [← isum_perm R.perm, heq g, hroot]
  omega
end

/-! ## what the law asks -/
section
variable {lt : Nat → Nat → Bool} {n : Nat} {ds : List Nat} {r : Nat → Int}

theorem len_filter (l : List Nat) (p : Nat → Bool) : ((l.filter p).length : Int) = isum l fun k => if p k = true then 1 else 0 := by
  induction l with
  | nil => rfl
  | cons a l ih =>
    rw [isum_cons, List.filter_cons]
    split
    · rw [List.length_cons]; push_cast; rw [ih]; omega
    · rw [ih]; omega
theorem len_filterB (l : List (Nat × Nat)) (p : Nat × Nat → Bool) (f : Nat × Nat → Int) (h : ∀ b ∈ l, f b = if p b = true then -1 else 0) : (l.map f).sum = -((l.filter p).length : Int) := by
  induction l with
  | nil => rfl
  | cons a l ih =>
    rw [List.map_cons, List.sum_cons, List.filter_cons, ih fun b hb => h b (List.mem_cons_of_mem _ hb), h a (List.mem_cons_self ..)]
    split
    · rw [List.length_cons]; push_cast; omega
    · omega

/-- THE SECOND: the stretches at t -/
theorem count_stretches (O : SO lt) (hr : ∀ i j, lt i j = true → r i ≤ r j) (h2 : 2 ≤ n) (R : Row lt n ds) {t : Int} (ht : ∃ k, k < n ∧ r k = t) :
    (if ∀ k, k < n → r k ≤ t then 1 else ((List.range n).filter fun k => decide (r k ≤ t) && !decide (r (nx n k) ≤ t)).length) =
      ((bruns lt n ds).2.filter fun b => decide (r b.1 ≤ t) && decide (t < r b.2)).length + 1 := by
  have U := R.upto O h2
  obtain ⟨lo, hi, hlo, hhi, hlow, hhigh, heq⟩ := weights O h2 R
  have blt : ∀ b ∈ (bruns lt n ds).2, b.1 < n ∧ b.2 < n ∧ r b.1 ≤ r b.2 := fun b hb => by
    obtain ⟨x, y⟩ := b
    obtain ⟨h1, h3, B⟩ := (U.bars x y).mp hb
    exact ⟨h1, R.mem.mp h3, hr _ _ B.lt⟩
  split
  · next hall =>
    have : ((bruns lt n ds).2.filter fun b => decide (r b.1 ≤ t) && decide (t < r b.2)) = [] := by
      rw [List.filter_eq_nil_iff]
      intro b hb
      have := hall b.2 (blt b hb).2.1
      simp; omega
    rw [this]; rfl
  · next hall =>
    have hg := heq fun k => if r k ≤ t then 1 else 0
    have ghi : ¬ r hi ≤ t := fun h => hall fun k hk => by
      by_cases q : k = hi
      · rw [q]; exact h
      · have := hr _ _ (hhigh k hk q); omega
    obtain ⟨k₀, hk₀, ek₀⟩ := ht
    have glo : r lo ≤ t := by
      by_cases q : k₀ = lo
      · rw [← q]; omega
      · have := hr _ _ (hlow k₀ hk₀ q); omega
    (try dsimp only at hg)
    rw [if_neg ghi, if_pos glo] at hg
    have hb : barSum (bruns lt n ds).2 (fun k => if r k ≤ t then 1 else 0) = -(((bruns lt n ds).2.filter fun b => decide (r b.1 ≤ t) && decide (t < r b.2)).length : Int) := by
      refine len_filterB _ _ _ fun b hb => ?_
      have := (blt b hb).2.2
      by_cases q1 : r b.1 ≤ t <;> by_cases q2 : r b.2 ≤ t <;> simp [q1, q2] <;> omega
    rw [hb] at hg
    have hc := len_filter (List.range n) fun k => decide (r k ≤ t) && !decide (r (nx n k) ≤ t)
    have e1 : isum (List.range n) (fun k => if (decide (r k ≤ t) && !decide (r (nx n k) ≤ t)) = true then 1 else 0) =
        isum (List.range n) (fun k => if r k ≤ t then 1 else 0) - isum (List.range n) (fun k => if lt k (nx n k) = true then (if r (nx n k) ≤ t then 1 else 0) else (if r k ≤ t then 1 else 0)) := by
      rw [← isum_sub]
      refine isum_congr fun k hk => ?_
      have hk' := List.mem_range.mp hk
      rcases O.tot k (nx n k) (Ne.symm (nx_ne h2 hk')) with h | h
      · have := hr _ _ h
        rw [if_pos h]
        by_cases q1 : r k ≤ t <;> by_cases q2 : r (nx n k) ≤ t <;> simp [q1, q2] <;> omega
      · have := hr _ _ h
        have hn : ¬ lt k (nx n k) = true := by rw [O.asymm h]; simp
        rw [if_neg hn]
        by_cases q1 : r k ≤ t <;> by_cases q2 : r (nx n k) ≤ t <;> simp [q1, q2] <;> omega
    have e2 := edges (n := n) O h2 fun k => if r k ≤ t then 1 else 0
    (try dsimp only at e2)
    rw [e2] at e1
    have e3 : isum (List.range n) (fun k => (if r k ≤ t then 1 else 0) * (before lt n k - 1)) = isum (List.range n) (fun k => (if r k ≤ t then 1 else 0) * before lt n k) - isum (List.range n) (fun k => if r k ≤ t then 1 else 0) := by
      rw [← isum_sub]
      refine isum_congr fun k _ => ?_
      rw [Int.mul_sub, Int.mul_one]
    rw [e1] at hc
    omega

/-- THE THIRD: the steps around the ring -/
theorem sum_steps (O : SO lt) (hr : ∀ i j, lt i j = true → r i ≤ r j) (h2 : 2 ≤ n) (R : Row lt n ds) {mx mn : Int} (hx : (∃ k, k < n ∧ r k = mx) ∧ ∀ k, k < n → r k ≤ mx) (hn : (∃ k, k < n ∧ r k = mn) ∧ ∀ k, k < n → mn ≤ r k) :
    isum (List.range n) (fun k => (((r k - r (pv n k)).natAbs : Nat) : Int)) = 2 * ((bruns lt n ds).2.map fun b => r b.2 - r b.1).sum + 2 * (mx - mn) := by
  obtain ⟨lo, hi, hlo, hhi, hlow, hhigh, heq⟩ := weights O h2 R
  have elo : r lo = mn := by
    obtain ⟨⟨k, hk, e⟩, h⟩ := hn
    have h1 := h lo hlo
    by_cases q : k = lo
    · rw [← q, e]
    · have := hr _ _ (hlow k hk q); omega
  have ehi : r hi = mx := by
    obtain ⟨⟨k, hk, e⟩, h⟩ := hx
    have h1 := h hi hhi
    by_cases q : k = hi
    · rw [← q, e]
    · have := hr _ _ (hhigh k hk q); omega
  have hg := heq r
  rw [elo, ehi] at hg
  have e0 : isum (List.range n) (fun k => (((r k - r (pv n k)).natAbs : Nat) : Int)) = isum (List.range n) (fun k => (((r (nx n k) - r k).natAbs : Nat) : Int)) := by
    rw [← isum_rot n fun k => (((r k - r (pv n k)).natAbs : Nat) : Int)]
    refine isum_congr fun k hk => ?_
    rw [pv_nx (List.mem_range.mp hk)]
  have e1 : isum (List.range n) (fun k => (((r (nx n k) - r k).natAbs : Nat) : Int)) = 2 * isum (List.range n) (fun k => if lt k (nx n k) = true then r (nx n k) else r k) - (isum (List.range n) (fun k => r (nx n k)) + isum (List.range n) r) := by
    rw [← isum_mul, ← isum_add, ← isum_sub]
    refine isum_congr fun k hk => ?_
    have hk' := List.mem_range.mp hk
    rcases O.tot k (nx n k) (Ne.symm (nx_ne h2 hk')) with h | h
    · have := hr _ _ h
      rw [if_pos h]; omega
    · have := hr _ _ h
      rw [if_neg (by rw [O.asymm h]; simp)]; omega
  rw [isum_rot n r, edges O h2 r] at e1
  have e3 : isum (List.range n) (fun k => r k * (before lt n k - 1)) = isum (List.range n) (fun k => r k * before lt n k) - isum (List.range n) r := by
    rw [← isum_sub]
    refine isum_congr fun k _ => ?_
    rw [Int.mul_sub, Int.mul_one]
  have e4 : barSum (bruns lt n ds).2 r = ((bruns lt n ds).2.map fun b => r b.2 - r b.1).sum := rfl
  rw [e0, e1]
  omega

/-- the order of the text: by the number, then by the place -/
def rlt (r : Nat → Int) (i j : Nat) : Bool := decide (r i < r j ∨ (r i = r j ∧ i < j))
theorem rlt_so (r : Nat → Int) : SO (rlt r) where
  irr := fun a => by simp [rlt]
  tr := fun a b c h h' => by simp [rlt] at *; omega
  tot := fun a b e => by simp [rlt]; omega
theorem rlt_le (r : Nat → Int) (i j : Nat) (h : rlt r i j = true) : r i ≤ r j := by simp [rlt] at h; omega
end
end Mine
end

section
open PySem PySem.W PyProof.Rows
set_option autoImplicit false
namespace Mine

/-- the sort's tree of questions, answered by lt -/
def Good {α : Type} (lt : Nat → Nat → Bool) (n : Nat) (P : α → Prop) : KasT α → Prop
  | .ret a => P a
  | .ask i j k => i < n ∧ j < n ∧ Good lt n P (k (lt i j))
theorem Good.bind {α β : Type} {lt : Nat → Nat → Bool} {n : Nat} {P : β → Prop} {f : α → KasT β} : ∀ {t : KasT α}, Good lt n (fun a => Good lt n P (f a)) t → Good lt n P (t.bind f)
  | .ret _, h => h
  | .ask _ _ _, h => ⟨h.1, h.2.1, Good.bind h.2.2⟩
theorem Good.mono {α : Type} {lt : Nat → Nat → Bool} {n : Nat} {P P' : α → Prop} (hp : ∀ a, P a → P' a) : ∀ {t : KasT α}, Good lt n P t → Good lt n P' t
  | .ret _, h => hp _ h
  | .ask _ _ _, h => ⟨h.1, h.2.1, Good.mono hp h.2.2⟩
theorem Good.wp {α : Type} {lt : Nat → Nat → Bool} {n : Nat} {P : α → Prop} {cmp : Nat → Nat → (Bool → Shared → Prop) → Shared → Prop} {Q : α → Shared → Prop}
    (hc : ∀ i j (C : Bool → Shared → Prop) s, i < n → j < n → C (lt i j) s → cmp i j C s) : ∀ {t : KasT α} {s : Shared}, Good lt n P t → (∀ a, P a → Q a s) → t.kasWp cmp Q s
  | .ret _, _, h, hq => hq _ h
  | .ask _ _ _, _, h, hq => hc _ _ _ _ h.1 h.2.1 (Good.wp hc h.2.2 hq)

theorem getDA_eq (p : Array Nat) (i : Nat) : p.getD i 0 = (p[i]?).getD 0 := by
  rw [Array.getD_eq_getD_getElem?]
theorem getD_rev {p : Array Nat} {n k : Nat} (hn : n ≤ p.size) (hk : k < n) : (kas_rev p 0 n).getD k 0 = p.getD (n - 1 - k) 0 := by
  rw [getDA_eq, getDA_eq]
  unfold kas_rev
  rw [getElem?_mirror_all hn, if_pos (by omega)]
  congr 2; omega
theorem getD_rev_out {p : Array Nat} {n k : Nat} (hn : n ≤ p.size) (hk : n ≤ k) : (kas_rev p 0 n).getD k 0 = p.getD k 0 := by
  rw [getDA_eq, getDA_eq]
  unfold kas_rev
  rw [getElem?_mirror_all hn, if_neg (by omega)]
theorem getD_bubble {p : Array Nat} {k l i : Nat} (hk : k < p.size) (hl : l ≤ k) : (bubble p k (k - l)).getD i 0 = if i = l then p.getD k 0 else if l < i ∧ i ≤ k then p.getD (i - 1) 0 else p.getD i 0 := by
  rw [getDA_eq, getDA_eq, getDA_eq, getDA_eq, getElem?_bubble hk _ (by omega), show k - (k - l) = l by omega]
  by_cases h1 : i = l
  · rw [if_pos h1, if_pos h1]
  · rw [if_neg h1, if_neg h1]
    by_cases h2 : l < i ∧ i ≤ k
    · rw [if_pos h2, if_pos h2]
    · rw [if_neg h2, if_neg h2]

structure Pm (n : Nat) (p : Array Nat) : Prop where
  perm : p.toList.Perm (List.range n)
theorem Pm.size {n : Nat} {p : Array Nat} (h : Pm n p) : p.size = n := by
  have := h.perm.length_eq
  rw [List.length_range] at this
  simpa using this
theorem Pm.getD {n : Nat} {p : Array Nat} {i : Nat} (hi : i < n) (h : Pm n p) : p.getD i 0 < n := by
  have hi' : i < p.size := by rw [h.size]; exact hi
  have e : p.getD i 0 = p[i] := by simp [Array.getD, hi']
  rw [e]
  exact List.mem_range.mp (h.perm.mem_iff.mp (by simp))
theorem Pm.inj {n : Nat} {p : Array Nat} {i j : Nat} (h : Pm n p) (hi : i < n) (hj : j < n) (e : p.getD i 0 = p.getD j 0) : i = j := by
  have hn : p.toList.Nodup := h.perm.nodup_iff.mpr List.nodup_range
  have hi' : i < p.toList.length := by have := h.size; simpa [this] using hi
  have hj' : j < p.toList.length := by have := h.size; simpa [this] using hj
  have hi2 : i < p.size := by rw [h.size]; exact hi
  have hj2 : j < p.size := by rw [h.size]; exact hj
  have e1 : p.getD i 0 = p.toList[i] := by simp [Array.getD, hi2]
  have e2 : p.getD j 0 = p.toList[j] := by simp [Array.getD, hj2]
  rw [e1, e2] at e
  exact (List.getElem_inj hn).mp e
theorem Pm.of {n : Nat} {p q : Array Nat} (h : Pm n p) (hq : q.Perm p) : Pm n q := ⟨(Array.perm_iff_toList_perm.mp hq).trans h.perm⟩

def Srt (lt : Nat → Nat → Bool) (p : Array Nat) (m : Nat) : Prop := ∀ i j, i < j → j < m → lt (p.getD i 0) (p.getD j 0) = true

section
variable {lt : Nat → Nat → Bool} {n : Nat}

theorem asc_good (O : SO lt) {p : Array Nat} (hp : Pm n p) : ∀ (f a : Nat), 1 ≤ a → a + f ≤ n → Srt lt p a →
    Good lt n (fun m => a ≤ m ∧ m ≤ a + f ∧ Srt lt p m ∧ (m < a + f → lt (p.getD m 0) (p.getD (m - 1) 0) = true)) (kas_asc p f a)
  | 0, a, h1, hf, hs => ⟨Nat.le_refl _, Nat.le_refl _, hs, fun h => absurd h (by omega)⟩
  | f + 1, a, h1, hf, hs => by
    refine ⟨hp.getD (by omega), hp.getD (by omega), ?_⟩
    cases hc : lt (p.getD a 0) (p.getD (a - 1) 0) with
    | true => exact ⟨Nat.le_refl _, by omega, hs, fun _ => hc⟩
    | false =>
      have hs' : Srt lt p (a + 1) := by
        intro i j hij hj
        by_cases h : j < a
        · exact hs i j hij h
        · have hja : j = a := by omega
          subst hja
          have h2 : lt (p.getD (j - 1) 0) (p.getD j 0) = true := O.lt_of hc fun e => by have := hp.inj (by omega) (by omega) e; omega
          by_cases h3 : i = j - 1
          · rw [h3]; exact h2
          · exact O.tr _ _ _ (hs i (j - 1) (by omega) (by omega)) h2
      exact (asc_good O hp f (a + 1) (by omega) (by omega) hs').mono fun m h => ⟨by omega, by omega, h.2.2.1, fun hm => h.2.2.2 (by omega)⟩

def Dsc (lt : Nat → Nat → Bool) (p : Array Nat) (m : Nat) : Prop := ∀ i j, i < j → j < m → lt (p.getD j 0) (p.getD i 0) = true

theorem desc_good (O : SO lt) {p : Array Nat} (hp : Pm n p) : ∀ (f a : Nat), 1 ≤ a → a + f ≤ n → Dsc lt p a →
    Good lt n (fun r => r.1 = p ∧ r.2.2 = 0 ∧ a ≤ r.2.1 ∧ r.2.1 ≤ a + f ∧ Dsc lt p r.2.1) (kas_desc f p a 0)
  | 0, a, h1, hf, hs => ⟨rfl, rfl, Nat.le_refl _, Nat.le_refl _, hs⟩
  | f + 1, a, h1, hf, hs => by
    refine ⟨hp.getD (by omega), hp.getD (by omega), ?_⟩
    cases hc : lt (p.getD a 0) (p.getD (a - 1) 0) with
    | true =>
      have hs' : Dsc lt p (a + 1) := by
        intro i j hij hj
        by_cases h : j < a
        · exact hs i j hij h
        · have hja : j = a := by omega
          subst hja
          by_cases h3 : i = j - 1
          · rw [h3]; exact hc
          · exact O.tr _ _ _ hc (hs i (j - 1) (by omega) (by omega))
      exact (desc_good O hp f (a + 1) (by omega) (by omega) hs').mono fun r h => ⟨h.1, h.2.1, by omega, by omega, h.2.2.2.2⟩
    | false =>
      refine ⟨hp.getD (by omega), hp.getD (by omega), ?_⟩
      have h2 : lt (p.getD (a - 1) 0) (p.getD a 0) = true := O.lt_of hc fun e => by have := hp.inj (by omega) (by omega) e; omega
      rw [h2]
      exact ⟨rfl, rfl, Nat.le_refl _, by dsimp only; omega, hs⟩

theorem tail3_good (O : SO lt) {p : Array Nat} (hp : Pm n p) {m : Nat} (h1 : 1 ≤ m) (hm : m ≤ n) (hd : Dsc lt p m) :
    Good lt n (fun r => 1 ≤ r.1 ∧ r.1 ≤ n ∧ Pm n r.2 ∧ Srt lt r.2 r.1) (kas_tail3 m n p) := by
  unfold kas_tail3
  have hp' : Pm n (kas_rev p 0 m) := hp.of (mirror_perm _ _ _ _)
  have hs : Srt lt (kas_rev p 0 m) m := by
    intro i j hij hj
    rw [getD_rev (by rw [hp.size]; exact hm) (by omega), getD_rev (by rw [hp.size]; exact hm) hj]
    exact hd _ _ (by omega) (by omega)
  refine Good.bind ((asc_good O hp' (n - m) m h1 (by omega) hs).mono fun x h => ?_)
  exact ⟨by dsimp only; omega, by dsimp only; omega, hp', h.2.2.1⟩

theorem count_good (O : SO lt) {p : Array Nat} (hp : Pm n p) (h2 : 2 ≤ n) : Good lt n (fun r => 1 ≤ r.1 ∧ r.1 ≤ n ∧ Pm n r.2 ∧ Srt lt r.2 r.1) (kas_count n p) := by
  unfold kas_count
  refine Good.bind ((asc_good O hp (n - 1) 1 (Nat.le_refl _) (by omega) fun i j hij hj => by omega).mono fun m h => ?_)
  obtain ⟨a1, a2, a3, a4⟩ := h
  by_cases hm : m = n
  · rw [if_pos (by simpa using hm)]
    exact ⟨a1, by dsimp only; omega, hp, a3⟩
  · rw [if_neg (by simpa using hm)]
    by_cases hm1 : m > 1
    · rw [if_pos hm1]
      refine ⟨hp.getD (by omega), hp.getD (by omega), ?_⟩
      rw [a3 0 (m - 1) (by omega) (by omega)]
      exact ⟨a1, by dsimp only; omega, hp, a3⟩
    · rw [if_neg hm1]
      have hm' : m = 1 := by omega
      subst hm'
      have hlt := a4 (by omega)
      unfold kas_descPart
      refine Good.bind ((desc_good O hp (n - (1 + 1)) (1 + 1) (by omega) (by omega) ?_).mono fun r h => ?_)
      · intro i j hij hj
        have e1 : i = 0 := by omega
        have e2 : j = 1 := by omega
        subst e1; subst e2
        exact hlt
      · obtain ⟨b1, b2, b3, b4, b5⟩ := h
        rw [b2, if_neg (by omega), b1]
        exact tail3_good O hp (by omega) (by omega) b5

theorem place_good (O : SO lt) {p : Array Nat} (hp : Pm n p) {k : Nat} (hk : k < n) (hs : Srt lt p k) : ∀ (f l r : Nat), r - l ≤ f → l ≤ r → r ≤ k →
    (∀ i, i < l → lt (p.getD i 0) (p.getD k 0) = true) → (∀ i, r ≤ i → i < k → lt (p.getD k 0) (p.getD i 0) = true) →
    Good lt n (fun l => l ≤ k ∧ (∀ i, i < l → lt (p.getD i 0) (p.getD k 0) = true) ∧ ∀ i, l ≤ i → i < k → lt (p.getD k 0) (p.getD i 0) = true) (kas_place p k f l r)
  | 0, l, r, hf, hlr, hrk, h1, h2 => ⟨by omega, h1, fun i a b => h2 i (by omega) b⟩
  | f + 1, l, r, hf, hlr, hrk, h1, h2 => by
    unfold kas_place
    split
    · exact ⟨by omega, h1, fun i a b => h2 i (by omega) b⟩
    · next hge =>
      refine ⟨hp.getD hk, hp.getD (by omega), ?_⟩
      have hmk : (l + r) / 2 < k := by omega
      cases hc : lt (p.getD k 0) (p.getD ((l + r) / 2) 0) with
      | true =>
        refine place_good O hp hk hs f l ((l + r) / 2) (by omega) (by omega) (by omega) h1 fun i a b => ?_
        by_cases e : i = (l + r) / 2
        · rw [e]; exact hc
        · exact O.tr _ _ _ hc (hs _ _ (by omega) b)
      | false =>
        have hc' : lt (p.getD ((l + r) / 2) 0) (p.getD k 0) = true := O.lt_of hc fun e => by have := hp.inj hk (by omega) e; omega
        refine place_good O hp hk hs f ((l + r) / 2 + 1) r (by omega) (by omega) hrk (fun i a => ?_) h2
        by_cases e : i = (l + r) / 2
        · rw [e]; exact hc'
        · exact O.tr _ _ _ (hs _ _ (by omega) hmk) hc'

theorem bin_good (O : SO lt) : ∀ (f : Nat) (p : Array Nat) (k : Nat), Pm n p → k + f = n → Srt lt p k → Good lt n (fun q => Pm n q ∧ Srt lt q n) (kas_bin f p k)
  | 0, p, k, hp, hf, hs => by
    have : k = n := by omega
    subst this
    exact ⟨hp, hs⟩
  | f + 1, p, k, hp, hf, hs => by
    unfold kas_bin
    have hk : k < n := by omega
    have hks : k < p.size := by rw [hp.size]; exact hk
    refine Good.bind ((place_good O hp hk hs k 0 k (by omega) (by omega) (Nat.le_refl _) (fun i h => absurd h (by omega)) fun i a b => absurd b (by omega)).mono fun l h => ?_)
    obtain ⟨hl, h1, h2⟩ := h
    refine bin_good O f _ (k + 1) (hp.of (bubble_perm _ _ _)) (by omega) ?_
    intro i j hij hj
    rw [getD_bubble hks hl, getD_bubble hks hl]
    by_cases e1 : i = l
    · rw [if_pos e1, if_neg (show ¬ j = l by omega), if_pos (show l < j ∧ j ≤ k by omega)]
      exact h2 (j - 1) (by omega) (by omega)
    · rw [if_neg e1]
      by_cases e2 : j = l
      · rw [if_pos e2, if_neg (show ¬ (l < i ∧ i ≤ k) by omega)]
        exact h1 i (by omega)
      · rw [if_neg e2]
        by_cases e3 : l < i ∧ i ≤ k
        · rw [if_pos e3, if_pos (show l < j ∧ j ≤ k by omega)]
          exact hs _ _ (by omega) (by omega)
        · rw [if_neg e3]
          by_cases e4 : l < j ∧ j ≤ k
          · rw [if_pos e4]
            by_cases e5 : j = k ∧ i = k
            · omega
            · exact hs _ _ (by omega) (by omega)
          · rw [if_neg e4]
            exact hs _ _ hij (by omega)

theorem sort_good (O : SO lt) (h2 : 2 ≤ n) : Good lt n (fun q => Pm n q ∧ Srt lt q n) (kas_sort n) := by
  unfold kas_sort
  have hp : Pm n (List.toArray (List.range n)) := ⟨List.Perm.refl _⟩
  refine Good.bind ((count_good O hp h2).mono fun r h => ?_)
  obtain ⟨h1, h2, h3, h4⟩ := h
  by_cases hr : r.1 < n
  · rw [if_pos hr, show max r.1 1 = r.1 by omega]
    exact bin_good O _ _ _ h3 (by omega) h4
  · rw [if_neg hr]
    have : r.1 = n := by omega
    rw [this] at h4
    exact ⟨h3, h4⟩

/-- the sorted places as a list -/
theorem sorted_list {q : Array Nat} (hp : Pm n q) (hs : Srt lt q n) : q.toList.Perm (List.range n) ∧ q.toList.Pairwise fun a b => lt a b = true := by
  refine ⟨hp.perm, ?_⟩
  rw [List.pairwise_iff_getElem]
  intro i j hi hj hij
  have hi2 : i < q.size := by simpa using hi
  have hj2 : j < q.size := by simpa using hj
  have := hs i j hij (by rw [← hp.size]; exact hj2)
  simpa [Array.getD, hi2, hj2] using this

/-- an order on the first n, carried on -/
def ltOn (n : Nat) (L : Nat → Nat → Bool) (i j : Nat) : Bool := if i < n ∧ j < n then L i j else decide (i < j)
theorem ltOn_of {n : Nat} {L : Nat → Nat → Bool} {i j : Nat} (hi : i < n) (hj : j < n) : ltOn n L i j = L i j := if_pos ⟨hi, hj⟩
theorem ltOn_so {n : Nat} {L : Nat → Nat → Bool} (irr : ∀ i, i < n → L i i = false) (tr : ∀ i j k, i < n → j < n → k < n → L i j = true → L j k = true → L i k = true)
    (tot : ∀ i j, i < n → j < n → i ≠ j → L i j = true ∨ L j i = true) : SO (ltOn n L) where
  irr := fun a => by
    unfold ltOn
    by_cases h : a < n
    · rw [if_pos ⟨h, h⟩]; exact irr a h
    · rw [if_neg (by omega)]; simp
  tr := fun a b c h h' => by
    unfold ltOn at h h' ⊢
    by_cases ha : a < n <;> by_cases hb : b < n <;> by_cases hc : c < n <;> simp only [ha, hb, hc, and_true, and_false, and_self, if_true, if_false, decide_eq_true_eq] at h h' ⊢ <;> first | exact tr a b c ha hb hc h h' | omega
  tot := fun a b e => by
    unfold ltOn
    by_cases ha : a < n <;> by_cases hb : b < n <;> simp [ha, hb] <;> first | exact tot a b ha hb e | omega
end
end Mine
end

section
open PySem PySem.W PyProof.Rows PySem.Calls
set_option Elab.async false
set_option linter.unusedVariables false
set_option maxRecDepth 100000
namespace Mine
open PySem.SeqAt PySem.MeetsSeq PySem.MeetsSeq2 PySem.MeetsSeq3 PySem.SeqRoads2

/-- what a plain '<' answers, at this state -/
def LtAt (A : Around) (s : Shared) (y x : Value) (b : Bool) : Prop :=
  ∀ (prog : Program) (w : World) (E : Value → Shared → Prop) (Q : Value → Shared → Prop), Q (.bool b) s → wpAny (model prog w) A (richCompare .Lt y x) Q E s

theorem tuple_lt2 (l b : Addr) (xs ys : Array Value) (p1 p2 q1 q2 : Value) (hxy : xs.toList.zip ys.toList = [(p1, q1), (p2, q2)]) (hsz : xs.size = ys.size) (n n2 : Nat) (dd dd2 : Option Addr) (sl sl2 : Array (Option Value)) (e1 e2 v : Bool) :
    Meets (Builtin.«tuple.__lt__» ⟨[.ref l, .ref b], []⟩)
      (fun A R s => s.heap.get? l = some { cls := .type "tuple", dict := dd, data := .seq xs n, slots := sl } ∧ s.heap.get? b = some { cls := .type "tuple", dict := dd2, data := .seq ys n2, slots := sl2 } ∧
        EqAt A.in1 s p1 q1 e1 ∧ (e1 = false → LtAt A.in1 s p1 q1 v) ∧ (e1 = true → EqAt A.in1 s p2 q2 e2) ∧ (e1 = true → e2 = false → LtAt A.in1 s p2 q2 v) ∧ (e1 = true → e2 = true → v = false) ∧
        R (.ok (.ret (.bool v))) s) :=
  .of_wp fun prog w A R s h => by
    obtain ⟨hp, g, d, tk, os⟩ := s; obtain ⟨hl, hb, h1, h2, h3, h4, h5, h⟩ := h
    have f2 := AutoSeq1.sub_tuple_tuple
    wp_walk using AutoSeq1.wpAny_loadPart' hl, AutoSeq1.wpAny_loadPart' hb, wpAny_forIn_list _ (fun rest b s' => b.1 = none ∧ s' = ⟨hp, g, d, tk, os⟩ ∧ (rest = [(p1, q1), (p2, q2)] ∨ (rest = [(p2, q2)] ∧ e1 = true) ∨ (rest = [] ∧ e1 = true ∧ e2 = true))) _
    case turn =>
      rintro ⟨y, x⟩ rest b s' ⟨hb', rfl, hz⟩
      rcases hz with hz | ⟨hz, he⟩ | ⟨hz, _⟩
      · injection hz with hyx hrest
        injection hyx with hy hx
        subst hy hx hrest
        refine wpAny_bind (h1 prog w _ _ ?_)
        cases e1 with
        | true =>
          wp_walk
          exact ⟨rfl, rfl, .inr (.inl ⟨rfl, rfl⟩)⟩
        | false =>
          have h2' := h2 rfl prog w
          wp_walk using h2'
          exact ⟨_, rfl, h⟩
      · injection hz with hyx hrest
        injection hyx with hy hx
        subst hy hx hrest
        refine wpAny_bind (h3 he prog w _ _ ?_)
        cases e2 with
        | true =>
          wp_walk
          exact ⟨rfl, rfl, .inr (.inr ⟨rfl, he, rfl⟩)⟩
        | false =>
          have h4' := h4 he rfl prog w
          wp_walk using h4'
          exact ⟨_, rfl, h⟩
      · cases hz
    case fin =>
      rintro ⟨b1, b2⟩ s' ⟨hb', rfl, hz⟩
      simp only at hb'
      subst hb'
      rcases hz with hz | ⟨hz, _⟩ | ⟨_, a1, a2⟩
      · cases hz
      · cases hz
      have hv := h5 a1 a2
      subst hv
      wp_walk
      exact ⟨_, rfl, by simpa [Builtin.Tuple.tupleCompareSizes, hsz] using h⟩
    case h =>
      exact ⟨rfl, rfl, .inl hxy⟩

theorem LtAt.tuples {A : Around} {s : Shared} {l b : Addr} {p1 p2 q1 q2 : Value} {e1 e2 v : Bool} (hl : IsTup s.heap l #[p1, p2]) (hb : IsTup s.heap b #[q1, q2]) (hu : A.units < cLine)
    (h1 : EqAt A.in1 s p1 q1 e1) (h2 : e1 = false → LtAt A.in1 s p1 q1 v) (h3 : e1 = true → EqAt A.in1 s p2 q2 e2) (h4 : e1 = true → e2 = false → LtAt A.in1 s p2 q2 v) (h5 : e1 = true → e2 = true → v = false) :
    LtAt A s (.ref l) (.ref b) v := fun prog w E Q h => by
  obtain ⟨⟨cls, dd, data, sl⟩, ho, hc, n, hd⟩ := id hl
  obtain ⟨⟨cls2, dd2, data2, sl2⟩, ho2, hc2, n2, hd2⟩ := id hb
  simp only at hc hd hc2 hd2
  subst hc hd hc2 hd2
  exact richCompare_meets_room (op := .Lt) ⟨_, ho, rfl⟩ ⟨_, ho2, rfl⟩ F.slot_tuple_lt F.entry_tuple_lt (F.args_tuple_lt_2 _ _) (tuple_lt2 l b #[p1, p2] #[q1, q2] p1 p2 q1 q2 rfl rfl n n2 dd dd2 sl sl2 e1 e2 v)
    ⟨ho, ho2, h1, h2, h3, h4, h5, show Value.bool v ≠ Value.notImplemented ∧ Q (.bool v) s from ⟨(fun x => nomatch x), h⟩⟩ hu

theorem LtAt.int {A : Around} {s : Shared} (a b : Int) (t u : Tok) : LtAt A s (.int a t) (.int b u) (decide (a < b)) := fun prog w E Q h => lt_int h
theorem EqAt_int {A : Around} {s : Shared} (a b : Int) (t u : Tok) : EqAt A s (.int a t) (.int b u) (a == b) := fun prog w E Q h => wpAny_eqBool_int h

/-- an item of the text: a number and its place -/
def Item (h : Heap) (a : Addr) (x : Int) (k : Nat) : Prop := ∃ t u : Tok, IsTup h a #[.int x t, .int (k : Int) u]
theorem Item.keeps {h h' : Heap} {a : Addr} {x : Int} {k : Nat} (i : Item h a x k) (hk : ∀ o, h.get? a = some o → h'.get? a = some o) : Item h' a x k :=
  let ⟨t, u, o, ho, r⟩ := i; ⟨t, u, o, hk o ho, r⟩
theorem IsTup.fn {h : Heap} {a : Addr} {x y : Array Value} (i : IsTup h a x) (j : IsTup h a y) : x = y := by
  obtain ⟨o, ho, _, n, hd⟩ := i
  obtain ⟨o', ho', _, n', hd'⟩ := j
  rw [ho] at ho'
  cases ho'
  rw [hd] at hd'
  cases hd'
  rfl
theorem Item.inj {h : Heap} {a : Addr} {x y : Int} {k j : Nat} (i : Item h a x k) (i' : Item h a y j) : k = j := by
  obtain ⟨t, u, i⟩ := i
  obtain ⟨t', u', i'⟩ := i'
  have := IsTup.fn i i'
  simp at this
  omega

theorem LtAt.items {A : Around} {s : Shared} {r : Nat → Int} {a b : Addr} {i j : Nat} (ha : Item s.heap a (r i) i) (hb : Item s.heap b (r j) j) (hu : A.units < cLine) : LtAt A s (.ref a) (.ref b) (rlt r i j) := by
  obtain ⟨t, u, ha⟩ := ha
  obtain ⟨t', u', hb⟩ := hb
  refine LtAt.tuples ha hb hu (EqAt_int _ _ _ _) (e2 := ((i : Int) == (j : Int))) (fun he => ?_) (fun _ => EqAt_int _ _ _ _) (fun he he2 => ?_) fun he he2 => ?_
  · have : rlt r i j = decide (r i < r j) := by
      unfold rlt
      have hne : r i ≠ r j := by simpa using he
      simp [hne]
    rw [this]; exact LtAt.int _ _ _ _
  · have : rlt r i j = decide ((i : Int) < (j : Int)) := by
      unfold rlt
      have hne : r i = r j := by simpa using he
      simp [hne]
    rw [this]; exact LtAt.int _ _ _ _
  · unfold rlt
    have h1 : r i = r j := by simpa using he
    have h2 : (i : Int) = j := by simpa using he2
    simp [h1]; omega

theorem EqAt.items {A : Around} {s : Shared} {r : Nat → Int} {a b : Addr} {i j : Nat} (ha : Item s.heap a (r i) i) (hb : Item s.heap b (r j) j) (hab : i = j → a = b) (hu : A.units < cLine) : EqAt A s (.ref a) (.ref b) (decide (i = j)) := by
  by_cases e : i = j
  · rw [hab e, decide_eq_true e]
    exact EqAt.same _
  · have hne : a ≠ b := by rintro rfl; exact e (ha.inj hb)
    obtain ⟨t, u, ha⟩ := ha
    obtain ⟨t', u', hb⟩ := hb
    refine EqAt.of_refs hne ?_
    have h := RcAt.tuples (A := A) (s := s) (e := fun x => if x = 0 then r i == r j else (i : Int) == (j : Int)) (l := a) (b := b) ha hb hu (fun x h1 h2 => ?_)
    · have e3 : ((List.range (min #[Value.int (r i) t, Value.int (i : Int) u].size #[Value.int (r j) t', Value.int (j : Int) u'].size)).all (fun x => if x = 0 then r i == r j else (i : Int) == (j : Int)) && #[Value.int (r i) t, Value.int (i : Int) u].size == #[Value.int (r j) t', Value.int (j : Int) u'].size) = decide (i = j) := by
        have hij : ¬ ((i : Int) = (j : Int)) := by omega
        simp [List.range_succ, e, hij]
      rw [e3] at h
      exact h
    · have hx : x = 0 ∨ x = 1 := by simp at h1; omega
      rcases hx with rfl | rfl
      · exact EqAt_int _ _ _ _
      · exact EqAt_int _ _ _ _

end Mine
end

section
open PySem PySem.W PyProof.Rows
set_option Elab.async false
namespace Mine
set_option maxRecDepth 100000 in
set_option maxHeartbeats 8000000 in
open_top hd for PySem.Challenge.rw_dj5012_01
end Mine
end

section
open PySem PySem.W PyProof.Rows PySem.Calls PySem.SeqAt
set_option Elab.async false
set_option linter.unusedVariables false
set_option maxRecDepth 100000
set_option maxHeartbeats 8000000
namespace Mine

abbrev PG : Program := Challenge.rw_dj5012_01.row.prog

def Kp (W : List Addr) (h h' : Heap) : Prop := ∀ b o, b ∉ W → h.get? b = some o → h'.get? b = some o
theorem Kp.refl (W : List Addr) (h : Heap) : Kp W h h := fun _ _ _ e => e
theorem Kp.trans {W : List Addr} {h h' h'' : Heap} (a : Kp W h h') (b : Kp W h' h'') : Kp W h h'' := fun x o n e => b x o n (a x o n e)
theorem Kp.mono {W W' : List Addr} {h h' : Heap} (a : Kp W h h') (s : ∀ x ∈ W, x ∈ W') : Kp W' h h' := fun x o n e => a x o (fun m => n (s x m)) e

structure Sta (w : World) (G : Heap) (mean : ExcName → Option Value) (mg mb : Str → Option Value) : Prop where
  X : (hd.heap_39 w.params).In G
  T : Top hd.view_39 (looseW hd.view_39 []) mean mg mb G
theorem Sta.keeps {w : World} {G G' : Heap} {mean : ExcName → Option Value} {mg mb : Str → Option Value} (S : Sta w G mean mg mb) (k : G.StaysIn G') : Sta w G' mean mg mb := ⟨S.X.keeps k, S.T.keeps k⟩

theorem enterP {w : World} {A : Around} {s : Shared} {G : Heap} {W : List Addr} {R : Result → Shared → Prop} {mean : ExcName → Option Value} {mg mb : Str → Option Value}
    {name qual : Str} {params : Arguments} {body : List Stmt} {scope : Scope} {dV kV doc pm cdv ct oc : Value} {an od : Option Addr} {osl : Array (Option Value)} {f : Addr} {args : Args} (binds : List (Str × Value))
    (S : Sta w G mean mg mb) (st : G.StaysIn s.heap) (hW : ∀ a ∈ W, G.get? a = none)
    (ho : (hd.heap_39 w.params).lookup f = some ⟨oc, od, .func (fnOf name qual params body scope dV kV doc pm an cdv ct), osl⟩) (hcd : codeIn (hd.heap_39 w.params) cdv qual = true) (hroom : A.depth < recursionLimit)
    (hbind : BindsTo s (fnOf name qual params body scope dV kV doc pm an cdv ct) args binds) (hloc : ∀ y ∈ binds, scope.names.lookup y.1 = some .local)
    (h : ∀ g L h₁, Kp W s.heap g → (∀ a ∈ W, g.get? a = none) → (∀ b o, s.heap.get? b = some o → h₁.get? b = some o ∧ b ≠ L) → Fr g L h₁ (fun y => binds.reverse.lookup y) → G.StaysIn g → (hd.heap_39 w.params).In g → Top hd.view_39 (looseW hd.view_39 []) mean mg mb g →
      wpAny (model PG w) (A.deeper (envOf qual scope L f cdv)) (execs body (envOf qual scope L f cdv))
        (fun fl s' => R (.ok (.ret (match fl with | .ret v => v | _ => .none))) s') (fun _ _ => False) { s with heap := h₁, toks := s.toks + binds.length })
    (hco : scope.isCoroutine = false) (hgen : scope.isGenerator = false) (hk : scope.kind = .function)
    (hcell : ∀ x ∈ scope.names, x.2 ≠ .cell) : codeAny (model PG w) A (.call (.ref f) args) R s := by
  have stg : G.StaysIn (hideAll s.heap W) := fun b o e => hideAll_get _ (st b o e) fun q => by rw [hW b q] at e; cases e
  refine codeAny_call_def (fd := fnX name qual params body scope [] dV kV doc pm an cdv ct) (body := body) (binds := binds) hroom ((S.X.keeps st) _ _ ho) rfl (S.T.nolimit.keeps st) (codeRec_of (S.X.keeps st) hcd) rfl hbind hcell hloc (fun h₁ hns hk₁ => ?_) hco hgen hk
  exact wpAny_mono (h (hideAll s.heap W) s.heap.objs.size h₁ (fun b o n e => hideAll_get _ e n) (fun a ha => hideAll_none _ ha) (fun b o e => ⟨hk₁ b o e, Nat.ne_of_lt (Heap.lt_size e)⟩) ⟨hns, fun b o e => hk₁ b o (of_hideAll _ e), Nat.le_of_eq (hideAll_size _ _)⟩ stg (S.X.keeps stg) (S.T.keeps stg)) (fun _ _ q => q) fun _ _ q => q.elim

def refs (adr : Nat → Addr) (xs : List Nat) : List Value := xs.map fun k => .ref (adr k)
theorem refs_length (adr : Nat → Addr) (xs : List Nat) : (refs adr xs).length = xs.length := by simp [refs]
theorem refs_get (adr : Nat → Addr) {xs : List Nat} {i : Nat} (hi : i < xs.length) : (refs adr xs)[i]? = some (.ref (adr (xs.getD i 0))) := by
  simp [refs, List.getD_eq_getElem?_getD, hi]
theorem refs_set (adr : Nat → Addr) (xs : List Nat) (i k : Nat) : (refs adr xs).set i (.ref (adr k)) = refs adr (xs.set i k) := by
  simp [refs, List.map_set]

/-- the items of the text stand -/
def Its (r : Nat → Int) (n : Nat) (adr : Nat → Addr) (h : Heap) : Prop := ∀ k, k < n → Item h (adr k) (r k) k
theorem Its.keeps {r : Nat → Int} {n : Nat} {adr : Nat → Addr} {h h' : Heap} (i : Its r n adr h) (k : ∀ b o, h.get? b = some o → h'.get? b = some o) : Its r n adr h' := fun x hx => (i x hx).keeps (k _)
theorem Item.ne_list {h : Heap} {a H : Addr} {x : Int} {k e : Nat} {vs : Array Value} (i : Item h a x k) (hl : h.get? H = some (listOf vs e)) : a ≠ H := by
  rintro rfl
  obtain ⟨t, u, o, ho, hc, _⟩ := i
  rw [ho] at hl
  cases hl
  exact absurd hc (by simp)
theorem Its.kp {r : Nat → Int} {n : Nat} {adr : Nat → Addr} {h h' : Heap} {H e : Nat} {vs : Array Value} (i : Its r n adr h) (hl : h.get? H = some (listOf vs e)) (k : Kp [H] h h') : Its r n adr h' :=
  fun x hx => (i x hx).keeps fun o ho => k _ _ (fun m => (i x hx).ne_list hl (List.mem_singleton.mp m)) ho

theorem lkN {P : Prop} [Decidable P] {a t v : Option Value} (h : ¬ P) (h' : t = v) : (if P then a else t) = v := by rw [if_neg h, h']
theorem lkY {P : Prop} [Decidable P] {a t : Option Value} (h : P) : (if P then a else t) = a := if_pos h

section
variable {prog : Program} {w : World} {A : Around} {s : Shared} {E : Value → Shared → Prop}
theorem while_inv {env : Env} {test : Expr} {body : List Stmt} {pos : Pos} {Q : Flow → Shared → Prop} (I : Nat → Shared → Prop) (n : Nat) (h : I n s)
    (turn : ∀ n s, I n s → wpAny (model prog w) A (isTrue test env (eval test env)) (fun b s₂ => if b = true then wpAny (model prog w) A (execs body env) (fun f s₃ => match f with
        | .next | .cont => ∃ m, m < n ∧ I m s₃
        | .brk => Q .next s₃
        | .ret v => Q (.ret v) s₃) (fun _ _ => False) s₂ else Q .next s₂) (fun _ _ => False) s) :
    wpAny (model prog w) A (exec (.While test body [] pos) env) Q E s := by
  refine wpAny_While (codeAny_whileLoop I (fun n s hI => ?_) n h)
  refine wpAny_mono (turn n s hI) (fun b s₂ h₂ => ?_) fun _ _ x => x.elim
  cases b with
  | true => exact wpAny_mono h₂ (fun f s₃ h₃ => by cases f <;> exact h₃) fun _ _ x => x.elim
  | false => exact wpAny_execs_nil h₂

theorem while_post {env : Env} {test : Expr} {body : List Stmt} {pos : Pos} {Q : Flow → Shared → Prop} (I : Nat → Shared → Prop) (J : Shared → Prop) (n : Nat) (h : I n s)
    (turn : ∀ n s, I n s → wpAny (model prog w) A (isTrue test env (eval test env)) (fun b s₂ => if b = true then wpAny (model prog w) A (execs body env) (fun f s₃ => match f with
        | .next | .cont => ∃ m, m < n ∧ I m s₃
        | .brk => J s₃
        | .ret v => False) (fun _ _ => False) s₂ else J s₂) (fun _ _ => False) s)
    (post : ∀ s', J s' → Q .next s') :
    wpAny (model prog w) A (exec (.While test body [] pos) env) Q E s := by
  refine while_inv I n h fun n s hI => wpAny_mono (turn n s hI) (fun b s₂ h₂ => ?_) fun _ _ x => x
  cases b with
  | true => exact wpAny_mono h₂ (fun f s₃ h₃ => by cases f <;> first | exact h₃ | exact post _ h₃ | exact h₃.elim) fun _ _ x => x
  | false => exact post _ h₂

theorem sub_refs {g : Heap} {L H : Addr} {rest : List (Addr × Obj)} {adr : Nat → Addr} {xs : List Nat} {e : Nat} (i : Nat) {k : Int} {u : Tok} {value slice : Expr} {Q : Value → Shared → Prop} (N : News g L s.heap ((H, listOf (refs adr xs).toArray e) :: rest))
    (hk : k = (i : Int)) (hi : i < xs.length) (hfit : xs.length ≤ 1000) (h : Q (.ref (adr (xs.getD i 0))) s)
    (hs : subscripted slice false (.ref H) (.int k u) = operate [.ref H, .int k u] (getItem (.ref H) (.int k u)) := by with_unfolding_all rfl) (hg : ∀ r, letTemporaryGo value (.ref H) r = pure () := by intro _; with_unfolding_all rfl) :
    wpAny (model prog w) A (subscriptTail value slice (.ref H) (.int k u)) Q E s := by
  subst hk
  exact kim_list N (List.mem_cons_self ..) rfl rfl (by omega) (by omega) (by rw [Int.toNat_natCast]; exact refs_get adr hi) h hs hg

theorem set_refs {g : Heap} {L H : Addr} {m : Str → Option Value} {rest : List (Addr × Obj)} {adr : Nat → Addr} {xs : List Nat} {e v : Nat} (i : Nat) {k : Int} {u : Tok} {Q : Unit → Shared → Prop} (F : Fr g L s.heap m) (N : News g L s.heap ((H, listOf (refs adr xs).toArray e) :: rest))
    (hr : ∀ p ∈ rest, p.1 ≠ H) (hk : k = (i : Int)) (hi : i < xs.length) (hfit : xs.length ≤ 1000)
    (h : ∀ h', Fr g L h' m → News g L h' ((H, listOf (refs adr (xs.set i v)).toArray e) :: rest) → Q () { s with heap := h' }) :
    wpAny (model prog w) A (setItem (.ref H) (.int k u) (.ref (adr v))) Q E s := by
  subst hk
  have z := N _ (List.mem_cons_self ..)
  have hs : (refs adr xs).toArray.size = xs.length := by rw [List.size_toArray, refs_length]
  have e1 : (refs adr xs).toArray.setIfInBounds i (.ref (adr v)) = (refs adr (xs.set i v)).toArray := by
    rw [← refs_set]
    apply Array.toList_inj.mp
    simp
  have hset := Heap.SameBut.update s.heap H (Obj.mapSeq (·.setIfInBounds (i : Int).toNat (.ref (adr v))))
  refine ki_setAt z.1 (by omega) (by omega) (by rw [hs]; omega) (h _ (F.change hset z.2.1 z.2.2) ?_)
  have e2 : (s.heap.update H (Obj.mapSeq (·.setIfInBounds (i : Int).toNat (.ref (adr v))))).get? H = some (listOf (refs adr (xs.set i v)).toArray e) := by
    rw [Heap.get?_update_self _ z.1 (by simp [Obj.mapSeq, Obj.isFreed])]
    simp [Obj.mapSeq, e1, refs_length]
  exact fun p hp => by
    rcases List.mem_cons.mp hp with rfl | hp
    · exact ⟨e2, z.2⟩
    · have y := N p (List.mem_cons_of_mem _ hp)
      exact ⟨(hset.2 _ (hr p hp)).trans y.1, y.2⟩

theorem half_eq {p : Nat} (h : 0 < p) : ((p : Int) - 1).fdiv (2 ^ Int.toNat 1) = (((p - 1) / 2 : Nat) : Int) := by
  rw [show (2 : Int) ^ Int.toNat 1 = 2 from rfl, Int.fdiv_eq_ediv_of_nonneg _ (by omega)]; omega
theorem lt_c {g : Heap} {L : Addr} {m : Str → Option Value} {r : Nat → Int} {n i j : Nat} {adr : Nat → Addr} {Q : Value → Shared → Prop} (F : Fr g L s.heap m) (hI : Its r n adr g) (hi : i < n) (hj : j < n) (hu : A.units < cLine)
    (h : Q (.bool (rlt r i j)) s) : wpAny (model prog w) A (compareOp .Lt (.ref (adr i)) (.ref (adr j))) Q E s :=
  cmp_ofLt (LtAt.items ((hI i hi).keeps (F.keep _)) ((hI j hj).keeps (F.keep _)) hu prog w E Q h)
theorem getD_mem {xs : List Nat} {i : Nat} (h : i < xs.length) : xs.getD i 0 ∈ xs := by
  rw [List.getD_eq_getElem?_getD, List.getElem?_eq_getElem h]; exact List.getElem_mem h
theorem set_all {xs : List Nat} {n i v : Nat} (h : ∀ k ∈ xs, k < n) (hv : v < n) : ∀ k ∈ xs.set i v, k < n := fun k hk =>
  (List.mem_or_eq_of_mem_set hk).elim (h k) fun e => e ▸ hv

theorem sd_zero {lt : Nat → Nat → Bool} {new start f pos : Nat} {xs : List Nat} (h : ¬ start < pos) : sdGo lt new start f pos xs = xs.set pos new := by
  cases f with
  | zero => rfl
  | succ f => unfold sdGo; rw [if_neg h]
end


section
variable {prog : Program} {w : World} {A : Around} {s : Shared} {E : Value → Shared → Prop}

abbrev rgt (r : Nat → Int) : Nat → Nat → Bool := fun a b => rlt r b a
theorem lt_cM {g : Heap} {L : Addr} {m : Str → Option Value} {r : Nat → Int} {n i j : Nat} {adr : Nat → Addr} {Q : Value → Shared → Prop} (F : Fr g L s.heap m) (hI : Its r n adr g) (hi : i < n) (hj : j < n) (hu : A.units < cLine)
    (h : Q (.bool (rgt r i j)) s) : wpAny (model prog w) A (compareOp .Lt (.ref (adr j)) (.ref (adr i))) Q E s := lt_c F hI hj hi hu h

theorem len_refs {g : Heap} {L H : Addr} {rest : List (Addr × Obj)} {adr : Nat → Addr} {xs : List Nat} {e : Nat} {Q : Value → Shared → Prop} (N : News g L s.heap ((H, listOf (refs adr xs).toArray e) :: rest)) (hfit : xs.length ≤ 1000)
    (h : Q (.int (xs.length : Nat) (s.toks + 1)) { s with toks := s.toks + 1 + 1 }) : wpAny (model prog w) A (call (.builtin "len") [.ref H]) Q E s := by
  have hs : (refs adr xs).toArray.size = xs.length := by rw [List.size_toArray, refs_length]
  refine len_list (PySem.IsL.isList (N _ (List.mem_cons_self ..)).1) (by rw [hs]; omega) ?_
  rw [hs]; exact h
theorem truthy_refs {g : Heap} {L H : Addr} {rest : List (Addr × Obj)} {adr : Nat → Addr} {xs : List Nat} {e : Nat} {Q : Bool → Shared → Prop} (N : News g L s.heap ((H, listOf (refs adr xs).toArray e) :: rest)) (hfit : xs.length ≤ 1000)
    (h : Q (!xs.isEmpty) { s with toks := s.toks + 1 + 1 }) : wpAny (model prog w) A (truthy (.ref H)) Q E s := by
  refine kgr_truthy N (List.mem_cons_self ..) rfl rfl (by rw [refs_length]; omega) ?_
  have : (refs adr xs).isEmpty = xs.isEmpty := by cases xs <;> rfl
  rw [this]; exact h
theorem pop_refs {g : Heap} {L H : Addr} {m : Str → Option Value} {adr : Nat → Addr} {xs : List Nat} {e : Nat} {Q : Value → Shared → Prop} (F : Fr g L s.heap m) (N : News g L s.heap [(H, listOf (refs adr xs).toArray e)]) (hne : 0 < xs.length) (hfit : xs.length ≤ 1000)
    (h : ∀ h', Fr g L h' m → News g L h' [(H, listOf (refs adr xs.dropLast).toArray (e + 1))] → Q (.ref (adr (xs.getD (xs.length - 1) 0))) { s with heap := h' }) :
    wpAny (model prog w) A (call (.builtin "list.pop") [.ref H]) Q E s := by
  have hx : xs ≠ [] := List.length_pos_iff.mp hne
  have e1 : refs adr xs = refs adr xs.dropLast ++ [Value.ref (adr (xs.getD (xs.length - 1) 0))] := by
    have e2 : xs.getD (xs.length - 1) 0 = xs.getLast hx := by
      rw [List.getD_eq_getElem?_getD, ← List.getLast?_eq_getElem?, List.getLast?_eq_some_getLast hx]; rfl
    rw [e2]
    conv => lhs; rw [← List.dropLast_concat_getLast hx]
    simp [refs]
  refine kl_pop (its := (refs adr xs).toArray) (n := e) F N (p := refs adr xs.dropLast) (y := .ref (adr (xs.getD (xs.length - 1) 0))) ?_ (by k_upd) (by rw [List.toList_toArray, refs_length, sizeLine_eq]; omega) h
  rw [List.toList_toArray, e1]
  exact kpa_last _ _

theorem frKp {W : List Addr} {g h h' : Heap} {L : Addr} {m : Str → Option Value} (F : Fr g L h m) (k : Kp W h h') (hL : L ∉ W) (hg : ∀ a ∈ W, g.get? a = none) : Fr g L h' m :=
  ⟨F.ns.at' fun o e => k _ _ hL e, fun b o e => k _ _ (fun q => by rw [hg b q] at e; cases e) (F.keep b o e), F.above⟩
theorem newsKp {W : List Addr} {g h h' : Heap} {L : Addr} {news : List (Addr × Obj)} (N : News g L h news) (k : Kp W h h') (hn : ∀ p ∈ news, p.1 ∉ W) : News g L h' news :=
  fun p hp => ⟨k _ _ (hn p hp) (N p hp).1, (N p hp).2⟩

theorem for_walks {env : Env} {x : Str} {px : Pos} {body : List Stmt} {I : Addr} {fp wr : List Addr} {n : Nat} {P : Nat → Value → Prop} {St : Nat → Heap → Prop} {Q : Flow → Shared → Prop} (W : Walks prog w A I fp wr n P St)
    (J : Nat → Shared → Prop) (h0 : J 0 s) (hst : ∀ i s, J i s → St i s.heap)
    (turn : ∀ i s v h' tk, i < n → J i s → P i v → St (i + 1) h' → Kp wr s.heap h' →
      wpAny (model prog w) A (storeName env x v) (fun _ s₂ => wpAny (model prog w) A (execs body env) (fun f s₃ => match f with
        | .next | .cont => J (i + 1) s₃
        | .brk => Q .next s₃
        | .ret v => Q (.ret v) s₃) (fun _ _ => False) s₂) (fun _ _ => False) { s with heap := h', toks := tk })
    (done : ∀ s h' tk, J n s → Kp wr s.heap h' → Q .next { s with heap := h', toks := tk }) :
    codeAny (model prog w) A (.forLoop (.Name x px) (.ref I) body [] env) (fun r s' => match r with | .ok f => Q f s' | .error e => cameBackBy (model prog w) A env E e s') s := by
  refine codeAny_forLoop (fun k s' => ∃ i, J i s' ∧ i ≤ n ∧ k = n + 1 - i) ?_ (n + 1) ⟨0, h0, Nat.zero_le _, rfl⟩
  rintro k s' ⟨i, hJ, hi, rfl⟩
  by_cases hlt : i < n
  · refine W.item i _ _ _ hlt (hst _ _ hJ) fun v h' tk hP hS hk => ?_
    refine wpAny_assign_Name (wpAny_mono (turn i s' v h' tk hlt hJ hP hS hk) (fun _ s₂ h₂ => wpAny_mono h₂ (fun f s₃ h₃ => ?_) fun _ _ x => x.elim) fun _ _ x => x.elim)
    cases f with
    | next => exact ⟨n + 1 - (i + 1), by omega, i + 1, h₃, hlt, rfl⟩
    | cont => exact ⟨n + 1 - (i + 1), by omega, i + 1, h₃, hlt, rfl⟩
    | brk => exact h₃
    | ret v => exact h₃
  · have hin : i = n := by omega
    subst hin
    exact W.done _ _ _ (hst _ _ hJ) fun h' tk hk => wpAny_execs_nil (done s' h' tk hJ hk)
end

section
variable {prog : Program} {w : World} {A : Around} {E : Value → Shared → Prop} {s : Shared}
abbrev riObj (x left step : Int) : Obj := { cls := .type "range_iterator", data := .fields #[rawInt x, rawInt left, rawInt step] }
theorem sub_ri_reversed : isSubtype (.type "range_iterator") (.type "reversed") = pure false := by rw [isSubtype_type]; kernel_rfl
theorem rangeFields_ {r : Addr} {a b c : Int} {t u v : Tok} {Q : Int × Int × Int → Shared → Prop} (hr : IsRange s.heap r a b c t u v) (h : Q (a, b, c) s) : wpAny (model prog w) A (Builtin.Range.rangeFields (.ref r)) Q E s := by
  unfold Builtin.Range.rangeFields
  refine wpAny_bind (wpAny_field hr rfl (x := .int a t) rfl ?_)
  refine wpAny_bind (wpAny_of_eq (a := some a) rfl ?_)
  refine wpAny_bind (wpAny_field hr rfl (x := .int b u) rfl ?_)
  refine wpAny_bind (wpAny_of_eq (a := some b) rfl ?_)
  refine wpAny_bind (wpAny_field hr rfl (x := .int c v) rfl ?_)
  refine wpAny_bind (wpAny_of_eq (a := some c) rfl ?_)
  exact wpAny_pure h
theorem range_reversed {r : Addr} {k : Nat} {t u v : Tok} {Q : Value → Shared → Prop} (hr : IsRange s.heap r 0 k 1 t u v) (hk : k ≤ 1000)
    (h : Q (.ref s.heap.objs.size) { s with heap := s.heap.push (riObj ((k : Int) - 1) k (-1)) }) : wpAny (model prog w) A (call (.builtin "range.__reversed__") [.ref r]) Q E s := by
  have hT : s.TypeIs (.ref r) "range" := ⟨_, hr, rfl⟩
  have hsz : Builtin.Range.rangeSize 0 (k : Int) 1 = k := by
    unfold Builtin.Range.rangeSize
    simp only [Int.reduceGT, if_true]
    split <;> omega
  have fit : ∀ i : Int, -2000 ≤ i → i ≤ 2000 → Builtin.Range.rangeFitsLong i = true := fun i h1 h2 => by
    unfold Builtin.Range.rangeFitsLong
    rw [Bool.and_eq_true, decide_eq_true_eq, decide_eq_true_eq]; exact ⟨Int.le_trans (by decide) h1, Int.lt_of_le_of_lt h2 (by decide)⟩
  refine wpAny_call_entry F.slot_range_reversed hT F.entry_range_reversed ?_ (F.args_range_reversed_1 _)
  unfold Builtin.«range.__reversed__»
  refine wpAny_bind (wpAny_of_eq (a := Value.ref r) rfl ?_)
  refine wpAny_bind (rangeFields_ hr ?_)
  generalize hS : Builtin.Range.rangeSize 0 (k : Int) 1 = S at hsz ⊢
  subst hsz
  dsimp only
  rw [hS]
  rw [fit 0 (by omega) (by omega), fit k (by omega) (by omega), fit 1 (by omega) (by omega), fit (-1) (by omega) (by omega), fit (0 - 1) (by omega) (by omega)]
  have e : (0 : Int) + ((k : Int) - 1) * 1 = k - 1 := by omega
  simp only [Bool.and_self, Bool.not_true, Bool.false_eq_true, if_false, if_true, e]
  exact wpAny_bind (wpAny_newObj_type (wpAny_pure ⟨_, rfl, h⟩))

theorem code_reversed_range {r : Addr} {k : Nat} {t u v : Tok} {Q₁ : Value → Shared → Prop} (hr : IsRange s.heap r 0 k 1 t u v) (hk : k ≤ 1000)
    (h : Q₁ (.ref s.heap.objs.size) { s with heap := s.heap.push (riObj ((k : Int) - 1) k (-1)) }) :
    codeAny (model prog w) A (.call (.builtin "reversed.__new__") ⟨[.type "reversed", .ref r], []⟩) (wants Q₁ E) s := by
  refine codeAny_of_tree ?_
  have hT : s.TypeIs (.ref r) "range" := ⟨_, hr, rfl⟩
  show wpAny _ A.in1 (do checkBuiltinCall "reversed.__new__" ⟨[.type "reversed", .ref r], []⟩; again (.builtin "reversed.__new__" ⟨[.type "reversed", .ref r], []⟩)) _ _ s
  refine wpAny_bind (wpAny_of_eq (F.newCall_reversed_1 _) (wpAny_pure ⟨plainId_quiet F.plain_reversed_new _, codeAny_builtin F.entry_reversed_new ?_⟩))
  rw [Around.under_plainId F.plain_reversed_new _]
  unfold Builtin.«reversed.__new__»
  refine wpAny_bind (wpAny_of_eq (newClass_reversed _) ?_)
  (try dsimp only)
  refine wpAny_bind (wpAny_of_eq (a := ()) (by first | rfl | kernel_rfl) ?_)
  refine wpAny_bind (wpAny_of_eq (a := ()) (by first | rfl | kernel_rfl) ?_)
  (try dsimp only)
  refine wpAny_bind (wpAny_specialOf hT F.slot_range_reversed.lookup ?_)
  (try dsimp only)
  refine wpAny_bind (wpAny_of_eq (F.slot_range_reversed.bind _) ?_)
  (try dsimp only)
  first
  | rw [if_neg (show ¬ ((Value.builtin "range.__reversed__" == Value.none) = true) from Bool.false_ne_true)]
  | (show wpAny _ _ (if (Value.builtin "range.__reversed__" == Value.none) = true then _ else _) _ _ _; rw [if_neg (show ¬ ((Value.builtin "range.__reversed__" == Value.none) = true) from Bool.false_ne_true)])
  refine wpAny_bind (wpAny_rule ?_)
  refine wpAny_bind (m := runValue (.call (.builtin "range.__reversed__") ⟨[.ref r], []⟩)) (show wpAny _ _ (call (.builtin "range.__reversed__") [.ref r]) _ _ _ from range_reversed hr hk ?_)
  first
  | exact wpAny_pure h
  | exact wpAny_bind (wpAny_pure (wpAny_pure h))
theorem call_reversed_range {r : Addr} {k : Nat} {t u v : Tok} {Q : Value → Shared → Prop} (hr : IsRange s.heap r 0 k 1 t u v) (hk : k ≤ 1000)
    (h : Q (.ref s.heap.objs.size) { s with heap := s.heap.push (riObj ((k : Int) - 1) k (-1)) }) : wpAny (model prog w) A (call (.type "reversed") [.ref r]) Q E s := by
  refine callType_other (U := "range_iterator") (Q₁ := fun obj s₁ => obj = .ref s.heap.objs.size ∧ s₁ = { s with heap := s.heap.push (riObj ((k : Int) - 1) k (-1)) }) (by decide +kernel) F.create_reversed ⟨_, _, F.mro_reversed⟩ F.made_reversed sub_ri_reversed (F.typeCall_reversed_1 _) (code_reversed_range hr hk ⟨rfl, rfl⟩) ?_
  rintro obj s₁ ⟨rfl, rfl⟩
  exact ⟨⟨_, Heap.get?_push_size _ rfl, rfl⟩, h⟩
end
end Mine
end

section
open PySem PySem.W PyProof.Rows PySem.Calls PySem.SeqAt
set_option Elab.async false
set_option linter.unusedVariables false
set_option maxRecDepth 100000
set_option maxHeartbeats 8000000
namespace Mine
local macro_rules | `(tactic| walk_at "lk") => `(tactic| first | assumption | exact rfl | (refine lkY ?_; exact rfl) | (refine lkN (by decide) ?_; walk_at "lk"))
local macro_rules | `(tactic| walk_at "eval Name") => `(tactic| (k_here; k_dflt (refine' nameX_L ?F ?v ?_ ?a ?b; (case F => with_reducible assumption); (case a => rfl); (case b => rfl); (case v => walk_at "lk"); k_whole)))
local macro_rules | `(tactic| walk_at "w") => `(tactic| ((try dsimp only); (with_reducible show wpAny _ _ _ _ _ _); (fail_if_success (with_reducible show wpAny _ _ (exec (Stmt.While _ _ _ _) _) _ _ _)); (fail_if_success (with_reducible show wpAny _ _ (exec (Stmt.For _ _ _ _ _) _) _ _ _)); (fail_if_success (with_reducible show wpAny _ _ (subscriptTail _ _ (Value.ref _) _) _ _ _)); (fail_if_success (with_reducible show wpAny _ _ (setItem (Value.ref _) _ _) _ _ _)); (fail_if_success (with_reducible show wpAny _ _ (compareOp _ (Value.ref _) (Value.ref _)) _ _ _)); (fail_if_success (with_reducible show wpAny _ _ (call (Value.ref _) _ _) _ _ _)); walk1; (try dsimp only)))
local macro_rules | `(tactic| walk_at "ws") => `(tactic| repeat ((fail_if_success (with_reducible show wpAny _ _ (storeName _ _ _) _ _ _)); walk_at "w"))
local macro_rules | `(tactic| walk_at "call builtin:len") => `(tactic| ((with_reducible refine len_refs (by with_reducible assumption) ?_ ?_); (omega)))


theorem fillB (w : World) (s : Shared) (A : Around) (h : (hd.heap_39 w.params).In s.heap → wpAny (model Challenge.rw_dj5012_01.row.prog w) A (pure ()) (fun _ _ => True) (fun _ _ => False) s) :
   (hd.heap_39 w.params).In s.heap → wpAny (model Challenge.rw_dj5012_01.row.prog w) A (pure ()) (fun _ _ => True) (fun _ _ => False) s := by
  k_fill
  exact h

theorem siftdown_c {w : World} {A : Around} {s : Shared} {G : Heap} {R : Result → Shared → Prop} {mean : ExcName → Option Value} {mg mb : Str → Option Value} (S : Sta w G mean mg mb) (st : G.StaysIn s.heap)
   {r : Nat → Int} {n : Nat} {adr : Nat → Addr} {H : Addr} {xs : List Nat} {e : Nat} {pos start : Nat} {t1 t2 : Tok} (hH : G.get? H = none) (hl : s.heap.get? H = some (listOf (refs adr xs).toArray e)) (hpos : pos < xs.length) (hfit : xs.length ≤ 1000)
   (hI : Its r n adr s.heap) (hxs : ∀ k ∈ xs, k < n) (hroom : A.depth < recursionLimit) (hunits : A.units + 10 < cLine)
   (k : ∀ h' tk, Kp [H] s.heap h' → h'.get? H = some (listOf (refs adr (siftdown (rlt r) xs start pos)).toArray e) → R (.ok (.ret .none)) { s with heap := h', toks := tk }) :
   codeAny (model PG w) A (.call (.ref 49) ⟨[.ref H, .int start t1, .int pos t2], []⟩) R s := by
  refine' enterP (W := [H]) [(Str.ofString "heap", .ref H), (Str.ofString "startpos", .int start t1), (Str.ofString "pos", .int pos t2)] S st (by simpa using hH) ?k6 ?k7 hroom ?k9 ?kB ?_ ?c2 ?c3 ?c4 ?c5
  (case k6 => k_is)
  (case k7 => k_is)
  (case k9 => exact BindsTo.of_eq rfl)
  (case c5 => decide)
  (case kB => exact locs rfl)
  (case c2 => exact rfl)
  (case c3 => exact rfl)
  (case c4 => exact rfl)
  intro g L h₁ kp hg kk F sg X' T'
  try dsimp only
  have N : News g L h₁ [(H, listOf (refs adr xs).toArray e)] := fun p hp => by
    rw [List.mem_singleton.mp hp]; exact ⟨(kk _ _ hl).1, (kk _ _ hl).2, hg _ (by simp)⟩
  have hIg : Its r n adr g := hI.kp hl kp
  clear kk
  repeat walk_at "w"
  refine sub_refs pos N rfl hpos hfit ?_
  (try dsimp only)
  repeat walk_at "w"
  (rename Fr _ _ _ _ => F1); (rename News _ _ _ _ => N1)
  refine while_post (fun f s' => ∃ h tk m ys p tp, s' = { s with heap := h, toks := tk } ∧ Fr g L h m ∧ News g L h [(H, listOf (refs adr ys).toArray e)] ∧ m (Str.ofString "heap") = some (.ref H) ∧ m (Str.ofString "startpos") = some (.int start t1) ∧ m (Str.ofString "newitem") = some (.ref (adr (xs.getD pos 0))) ∧ m (Str.ofString "pos") = some (.int (p : Nat) tp) ∧
    sdGo (rlt r) (xs.getD pos 0) start f p ys = siftdown (rlt r) xs start pos ∧ p ≤ f ∧ p < ys.length ∧ ys.length = xs.length ∧ ∀ k ∈ ys, k < n)
    (fun s' => ∃ h tk m ys p tp, s' = { s with heap := h, toks := tk } ∧ Fr g L h m ∧ News g L h [(H, listOf (refs adr ys).toArray e)] ∧ m (Str.ofString "heap") = some (.ref H) ∧ m (Str.ofString "newitem") = some (.ref (adr (xs.getD pos 0))) ∧ m (Str.ofString "pos") = some (.int (p : Nat) tp) ∧
      ys.set p (xs.getD pos 0) = siftdown (rlt r) xs start pos ∧ p < ys.length ∧ ys.length = xs.length)
    pos ⟨_, _, _, xs, pos, t2, rfl, F1, N1, by walk_at "lk", by walk_at "lk", by walk_at "lk", by walk_at "lk", rfl, Nat.le_refl _, hpos, rfl, hxs⟩ ?_ ?_
  · rintro f s' ⟨h, tk, m, ys, p, tp, rfl, F2, N2, m1, m2, m3, m4, eq, hpf, hpl, hlen, hys⟩
    clear F1 N1
    repeat walk_at "w"
    by_cases hsp : start < p
    · rw [if_pos (by simpa using hsp)]
      obtain ⟨f, rfl⟩ : ∃ f', f = f' + 1 := ⟨f - 1, by omega⟩
      rw [sdGo, if_pos hsp] at eq
      repeat walk_at "w"
      (rename Fr _ _ _ _ => F3); (rename News _ _ _ _ => N3)
      refine sub_refs ((p - 1) / 2) N3 (half_eq (by omega)) (by omega) (by omega) ?_
      (try dsimp only)
      repeat walk_at "w"
      (rename Fr _ _ _ _ => F4); (rename News _ _ _ _ => N4)
      refine lt_c F4 hIg (hxs _ (getD_mem hpos)) (hys _ (getD_mem (by omega))) (by show A.units + 3 < cLine; omega) ?_
      repeat walk_at "w"
      by_cases hlt : rlt r (xs.getD pos 0) (ys.getD ((p - 1) / 2) 0) = true
      · rw [if_pos hlt]
        rw [if_pos hlt] at eq
        repeat walk_at "w"
        refine set_refs p F4 N4 (by simp) rfl hpl (by omega) ?_
        intro h5 F5 N5
        repeat walk_at "w"
        (rename Fr _ _ _ _ => F6); (rename News _ _ _ _ => N6)
        exact ⟨f, by omega, _, _, _, _, (p - 1) / 2, _, rfl, F6, N6, by walk_at "lk", by walk_at "lk", by walk_at "lk", by rw [← half_eq (by omega)]; walk_at "lk", eq, by omega, by rw [List.length_set]; omega, by rw [List.length_set]; omega, set_all hys (hys _ (getD_mem (by omega)))⟩
      · rw [if_neg hlt]
        rw [if_neg hlt] at eq
        repeat walk_at "w"
        exact ⟨_, _, _, ys, p, tp, rfl, F4, N4, by walk_at "lk", by walk_at "lk", by walk_at "lk", eq, hpl, hlen⟩
    · rw [if_neg (by simpa using hsp)]
      rw [sd_zero hsp] at eq
      exact ⟨_, _, _, ys, p, tp, rfl, F2, N2, by walk_at "lk", by walk_at "lk", by walk_at "lk", eq, hpl, hlen⟩
  · rintro s' ⟨h, tk, m, ys, p, tp, rfl, F2, N2, m1, m2, m3, eq, hpl, hlen⟩
    clear F1 N1
    (try dsimp only)
    repeat walk_at "w"
    refine set_refs p F2 N2 (by simp) rfl hpl (by omega) ?_
    intro h5 F5 N5
    repeat walk_at "w"
    rw [eq] at N5
    exact k _ _ (fun b o nb e => F5.keep _ _ (kp b o nb e)) (N5 _ (List.mem_cons_self ..)).1

theorem siftup_c {w : World} {A : Around} {s : Shared} {G : Heap} {R : Result → Shared → Prop} {mean : ExcName → Option Value} {mg mb : Str → Option Value} (S : Sta w G mean mg mb) (st : G.StaysIn s.heap)
   {r : Nat → Int} {n : Nat} {adr : Nat → Addr} {H : Addr} {xs : List Nat} {e : Nat} {p0 : Nat} {t1 : Tok} (hH : G.get? H = none) (hl : s.heap.get? H = some (listOf (refs adr xs).toArray e)) (hpos : p0 < xs.length) (hfit : xs.length ≤ 1000)
   (hI : Its r n adr s.heap) (hxs : ∀ k ∈ xs, k < n) (hroom : A.depth + 1 < recursionLimit) (hunits : A.units + 20 < cLine)
   (k : ∀ h' tk, Kp [H] s.heap h' → h'.get? H = some (listOf (refs adr (siftup (rlt r) xs p0)).toArray e) → R (.ok (.ret .none)) { s with heap := h', toks := tk }) :
   codeAny (model PG w) A (.call (.ref 56) ⟨[.ref H, .int p0 t1], []⟩) R s := by
  refine' enterP (W := [H]) [(Str.ofString "heap", .ref H), (Str.ofString "pos", .int p0 t1)] S st (by simpa using hH) ?k6 ?k7 (by omega) ?k9 ?kB ?_ ?c2 ?c3 ?c4 ?c5
  (case k6 => k_is)
  (case k7 => k_is)
  (case k9 => exact BindsTo.of_eq rfl)
  (case c5 => decide)
  (case kB => exact locs rfl)
  (case c2 => exact rfl)
  (case c3 => exact rfl)
  (case c4 => exact rfl)
  intro g L h₁ kp hg kk F sg X' T'
  try dsimp only
  have N : News g L h₁ [(H, listOf (refs adr xs).toArray e)] := fun p hp => by
    rw [List.mem_singleton.mp hp]; exact ⟨(kk _ _ hl).1, (kk _ _ hl).2, hg _ (by simp)⟩
  have hIg : Its r n adr g := hI.kp hl kp
  clear kk
  repeat walk_at "w"
  (rename Fr _ _ _ _ => F1); (rename News _ _ _ _ => N1)
  refine sub_refs p0 N1 rfl hpos hfit ?_
  (try dsimp only)
  walk_at "ws"
  walk_at "w"
  walk_at "ws"
  rw [show 2 * (p0 : Int) + 1 = ((2 * p0 + 1 : Nat) : Int) by omega]
  repeat walk_at "w"
  (rename Fr _ _ _ _ => F2); (rename News _ _ _ _ => N2)
  refine while_post (fun f s' => ∃ h tk m ys p tp tc, s' = { s with heap := h, toks := tk } ∧ Fr g L h m ∧ News g L h [(H, listOf (refs adr ys).toArray e)] ∧ m (Str.ofString "heap") = some (.ref H) ∧ (∃ t, m (Str.ofString "endpos") = some (.int xs.length t)) ∧ m (Str.ofString "startpos") = some (.int p0 t1) ∧ m (Str.ofString "newitem") = some (.ref (adr (xs.getD p0 0))) ∧
      m (Str.ofString "pos") = some (.int (p : Nat) tp) ∧ m (Str.ofString "childpos") = some (.int (2 * p + 1 : Nat) tc) ∧
      suGo (rlt r) f p ys = suGo (rlt r) xs.length p0 xs ∧ ys.length ≤ p + f ∧ p < ys.length ∧ ys.length = xs.length ∧ ∀ k ∈ ys, k < n)
    (fun s' => ∃ h tk m ys p tp, s' = { s with heap := h, toks := tk } ∧ Fr g L h m ∧ News g L h [(H, listOf (refs adr ys).toArray e)] ∧ m (Str.ofString "heap") = some (.ref H) ∧ m (Str.ofString "startpos") = some (.int p0 t1) ∧ m (Str.ofString "newitem") = some (.ref (adr (xs.getD p0 0))) ∧ m (Str.ofString "pos") = some (.int (p : Nat) tp) ∧
      (p, ys) = suGo (rlt r) xs.length p0 xs ∧ p < ys.length ∧ ys.length = xs.length ∧ ∀ k ∈ ys, k < n)
    xs.length ⟨_, _, _, xs, p0, _, _, rfl, F2, N2, by walk_at "lk", ⟨_, by walk_at "lk"⟩, by walk_at "lk", by walk_at "lk", by walk_at "lk", by walk_at "lk", rfl, by omega, hpos, rfl, hxs⟩ ?_ ?_
  · rintro f s' ⟨h, tk, m, ys, p, tp, tc, rfl, F3, N3, m1, ⟨te, m2⟩, m3, m4, m5, m6, eq, hpf, hpl, hlen, hys⟩
    clear F2 N2
    repeat walk_at "w"
    by_cases hc : 2 * p + 1 < xs.length
    · rw [if_pos (by simp; omega)]
      obtain ⟨f, rfl⟩ : ∃ f', f = f' + 1 := ⟨f - 1, by omega⟩
      rw [suGo, if_pos (by omega)] at eq
      walk_at "ws"
      rw [show ((2 * p + 1 : Nat) : Int) + 1 = ((2 * p + 2 : Nat) : Int) by omega]
      repeat walk_at "w"
      (rename Fr _ _ _ _ => F4); (rename News _ _ _ _ => N4)
      by_cases hr : 2 * p + 2 < ys.length
      · rw [if_pos (by simp; omega)]
        repeat walk_at "w"
        refine sub_refs (2 * p + 1) N4 rfl (by omega) (by omega) ?_
        (try dsimp only)
        repeat walk_at "w"
        refine sub_refs (2 * p + 2) N4 rfl (by omega) (by omega) ?_
        (try dsimp only)
        refine lt_c F4 hIg (hys _ (getD_mem (by omega))) (hys _ (getD_mem (by omega))) (by show A.units + 3 < cLine; omega) ?_
        (try dsimp only)
        repeat walk_at "w"
        cases hb : rlt r (ys.getD (2 * p + 1) 0) (ys.getD (2 * p + 2) 0) with
        | false =>
          have hch : child (rlt r) ys p = 2 * p + 2 := by unfold child; rw [if_pos ⟨hr, hb⟩]
          rw [hch] at eq
          rw [if_pos (show (!false) = true from rfl)]
          repeat walk_at "w"
          rw [if_pos (show true = true from rfl)]
          repeat walk_at "w"
          (rename Fr _ _ _ _ => F5); (rename News _ _ _ _ => N5)
          refine sub_refs (2 * p + 2) N5 rfl (by omega) (by omega) ?_
          (try dsimp only)
          repeat walk_at "w"
          refine set_refs p F5 N5 (by simp) rfl hpl (by omega) ?_
          intro h6 F6 N6
          walk_at "ws"
          walk_at "w"
          walk_at "ws"
          rw [show 2 * ((2 * p + 2 : Nat) : Int) + 1 = ((2 * (2 * p + 2) + 1 : Nat) : Int) by omega]
          repeat walk_at "w"
          (rename Fr _ _ _ _ => F7); (rename News _ _ _ _ => N7)
          exact ⟨f, by omega, _, _, _, _, 2 * p + 2, _, _, rfl, F7, N7, by walk_at "lk", ⟨_, by walk_at "lk"⟩, by walk_at "lk", by walk_at "lk", by walk_at "lk", by walk_at "lk", eq, by rw [List.length_set]; omega, by rw [List.length_set]; omega, by rw [List.length_set]; omega, set_all hys (hys _ (getD_mem (by omega)))⟩
        | true =>
          have hch : child (rlt r) ys p = 2 * p + 1 := by unfold child; rw [if_neg (fun h => by rw [hb] at h; exact absurd h.2 (by simp))]
          rw [hch] at eq
          rw [if_neg (show ¬ (!true) = true by simp), if_neg Bool.false_ne_true]
          repeat walk_at "w"
          (rename Fr _ _ _ _ => F5); (rename News _ _ _ _ => N5)
          refine sub_refs (2 * p + 1) N5 rfl (by omega) (by omega) ?_
          (try dsimp only)
          repeat walk_at "w"
          refine set_refs p F5 N5 (by simp) rfl hpl (by omega) ?_
          intro h6 F6 N6
          walk_at "ws"
          walk_at "w"
          walk_at "ws"
          rw [show 2 * ((2 * p + 1 : Nat) : Int) + 1 = ((2 * (2 * p + 1) + 1 : Nat) : Int) by omega]
          repeat walk_at "w"
          (rename Fr _ _ _ _ => F7); (rename News _ _ _ _ => N7)
          exact ⟨f, by omega, _, _, _, _, 2 * p + 1, _, _, rfl, F7, N7, by walk_at "lk", ⟨_, by walk_at "lk"⟩, by walk_at "lk", by walk_at "lk", by walk_at "lk", by walk_at "lk", eq, by rw [List.length_set]; omega, by rw [List.length_set]; omega, by rw [List.length_set]; omega, set_all hys (hys _ (getD_mem (by omega)))⟩
      · have hch : child (rlt r) ys p = 2 * p + 1 := by unfold child; rw [if_neg (fun h => hr h.1)]
        rw [hch] at eq
        rw [if_neg (by simp; omega), if_neg Bool.false_ne_true]
        repeat walk_at "w"
        (rename Fr _ _ _ _ => F5); (rename News _ _ _ _ => N5)
        refine sub_refs (2 * p + 1) N5 rfl (by omega) (by omega) ?_
        (try dsimp only)
        repeat walk_at "w"
        refine set_refs p F5 N5 (by simp) rfl hpl (by omega) ?_
        intro h6 F6 N6
        walk_at "ws"
        walk_at "w"
        walk_at "ws"
        rw [show 2 * ((2 * p + 1 : Nat) : Int) + 1 = ((2 * (2 * p + 1) + 1 : Nat) : Int) by omega]
        repeat walk_at "w"
        (rename Fr _ _ _ _ => F7); (rename News _ _ _ _ => N7)
        exact ⟨f, by omega, _, _, _, _, 2 * p + 1, _, _, rfl, F7, N7, by walk_at "lk", ⟨_, by walk_at "lk"⟩, by walk_at "lk", by walk_at "lk", by walk_at "lk", by walk_at "lk", eq, by rw [List.length_set]; omega, by rw [List.length_set]; omega, by rw [List.length_set]; omega, set_all hys (hys _ (getD_mem (by omega)))⟩
    · rw [if_neg (by simp; omega)]
      have eq' : suGo (rlt r) f p ys = (p, ys) := by
        cases f with
        | zero => rfl
        | succ f => unfold suGo; rw [if_neg (by omega)]
      exact ⟨_, _, _, ys, p, _, rfl, F3, N3, m1, m3, m4, m5, by rw [← eq, eq'], hpl, hlen, hys⟩
  · rintro s' ⟨h, tk, m, ys, p, tp, rfl, F3, N3, m1, m3, m4, m5, eq, hpl, hlen, hys⟩
    clear F2 N2
    (try dsimp only)
    repeat walk_at "w"
    refine set_refs p F3 N3 (by simp) rfl hpl (by omega) ?_
    intro h5 F5 N5
    repeat walk_at "w"
    have esu : siftup (rlt r) xs p0 = siftdown (rlt r) (ys.set p (xs.getD p0 0)) p0 p := by unfold siftup; rw [← eq]
    refine ⟨X'.keeps F5.keep, ?_⟩
    (try dsimp only [List.nil_append, List.cons_append])
    refine wpAny_call ?_
    refine' siftdown_c S ?st hH ?hl ?hp ?hf ?hI ?hx ?hr ?hu ?k
    (case st => exact fun b o e => F5.keep _ _ (sg b o e))
    (case hl => exact (N5 _ (List.mem_cons_self ..)).1)
    (case hp => rw [List.length_set]; exact hpl)
    (case hf => rw [List.length_set]; omega)
    (case hI => exact hIg.keeps F5.keep)
    (case hx => exact set_all hys (hxs _ (getD_mem hpos)))
    (case hr => show A.depth + 1 < _; omega)
    (case hu => show A.units + 3 + 10 < _; omega)
    intro h' tk' kp' hl'
    (try dsimp only)
    repeat walk_at "w"
    rw [← esu] at hl'
    exact k _ _ (fun b o nb e => kp' _ _ nb (F5.keep _ _ (kp b o nb e))) hl'

theorem siftdownM_c {w : World} {A : Around} {s : Shared} {G : Heap} {R : Result → Shared → Prop} {mean : ExcName → Option Value} {mg mb : Str → Option Value} (S : Sta w G mean mg mb) (st : G.StaysIn s.heap)
   {r : Nat → Int} {n : Nat} {adr : Nat → Addr} {H : Addr} {xs : List Nat} {e : Nat} {pos start : Nat} {t1 t2 : Tok} (hH : G.get? H = none) (hl : s.heap.get? H = some (listOf (refs adr xs).toArray e)) (hpos : pos < xs.length) (hfit : xs.length ≤ 1000)
   (hI : Its r n adr s.heap) (hxs : ∀ k ∈ xs, k < n) (hroom : A.depth < recursionLimit) (hunits : A.units + 10 < cLine)
   (k : ∀ h' tk, Kp [H] s.heap h' → h'.get? H = some (listOf (refs adr (siftdown (rgt r) xs start pos)).toArray e) → R (.ok (.ret .none)) { s with heap := h', toks := tk }) :
   codeAny (model PG w) A (.call (.ref 63) ⟨[.ref H, .int start t1, .int pos t2], []⟩) R s := by
  refine' enterP (W := [H]) [(Str.ofString "heap", .ref H), (Str.ofString "startpos", .int start t1), (Str.ofString "pos", .int pos t2)] S st (by simpa using hH) ?k6 ?k7 hroom ?k9 ?kB ?_ ?c2 ?c3 ?c4 ?c5
  (case k6 => k_is)
  (case k7 => k_is)
  (case k9 => exact BindsTo.of_eq rfl)
  (case c5 => decide)
  (case kB => exact locs rfl)
  (case c2 => exact rfl)
  (case c3 => exact rfl)
  (case c4 => exact rfl)
  intro g L h₁ kp hg kk F sg X' T'
  try dsimp only
  have N : News g L h₁ [(H, listOf (refs adr xs).toArray e)] := fun p hp => by
    rw [List.mem_singleton.mp hp]; exact ⟨(kk _ _ hl).1, (kk _ _ hl).2, hg _ (by simp)⟩
  have hIg : Its r n adr g := hI.kp hl kp
  clear kk
  repeat walk_at "w"
  refine sub_refs pos N rfl hpos hfit ?_
  (try dsimp only)
  repeat walk_at "w"
  (rename Fr _ _ _ _ => F1); (rename News _ _ _ _ => N1)
  refine while_post (fun f s' => ∃ h tk m ys p tp, s' = { s with heap := h, toks := tk } ∧ Fr g L h m ∧ News g L h [(H, listOf (refs adr ys).toArray e)] ∧ m (Str.ofString "heap") = some (.ref H) ∧ m (Str.ofString "startpos") = some (.int start t1) ∧ m (Str.ofString "newitem") = some (.ref (adr (xs.getD pos 0))) ∧ m (Str.ofString "pos") = some (.int (p : Nat) tp) ∧
    sdGo (rgt r) (xs.getD pos 0) start f p ys = siftdown (rgt r) xs start pos ∧ p ≤ f ∧ p < ys.length ∧ ys.length = xs.length ∧ ∀ k ∈ ys, k < n)
    (fun s' => ∃ h tk m ys p tp, s' = { s with heap := h, toks := tk } ∧ Fr g L h m ∧ News g L h [(H, listOf (refs adr ys).toArray e)] ∧ m (Str.ofString "heap") = some (.ref H) ∧ m (Str.ofString "newitem") = some (.ref (adr (xs.getD pos 0))) ∧ m (Str.ofString "pos") = some (.int (p : Nat) tp) ∧
      ys.set p (xs.getD pos 0) = siftdown (rgt r) xs start pos ∧ p < ys.length ∧ ys.length = xs.length)
    pos ⟨_, _, _, xs, pos, t2, rfl, F1, N1, by walk_at "lk", by walk_at "lk", by walk_at "lk", by walk_at "lk", rfl, Nat.le_refl _, hpos, rfl, hxs⟩ ?_ ?_
  · rintro f s' ⟨h, tk, m, ys, p, tp, rfl, F2, N2, m1, m2, m3, m4, eq, hpf, hpl, hlen, hys⟩
    clear F1 N1
    repeat walk_at "w"
    by_cases hsp : start < p
    · rw [if_pos (by simpa using hsp)]
      obtain ⟨f, rfl⟩ : ∃ f', f = f' + 1 := ⟨f - 1, by omega⟩
      rw [sdGo, if_pos hsp] at eq
      repeat walk_at "w"
      (rename Fr _ _ _ _ => F3); (rename News _ _ _ _ => N3)
      refine sub_refs ((p - 1) / 2) N3 (half_eq (by omega)) (by omega) (by omega) ?_
      (try dsimp only)
      repeat walk_at "w"
      (rename Fr _ _ _ _ => F4); (rename News _ _ _ _ => N4)
      refine lt_cM F4 hIg (hxs _ (getD_mem hpos)) (hys _ (getD_mem (by omega))) (by show A.units + 3 < cLine; omega) ?_
      repeat walk_at "w"
      by_cases hlt : rgt r (xs.getD pos 0) (ys.getD ((p - 1) / 2) 0) = true
      · rw [if_pos hlt]
        rw [if_pos hlt] at eq
        repeat walk_at "w"
        refine set_refs p F4 N4 (by simp) rfl hpl (by omega) ?_
        intro h5 F5 N5
        repeat walk_at "w"
        (rename Fr _ _ _ _ => F6); (rename News _ _ _ _ => N6)
        exact ⟨f, by omega, _, _, _, _, (p - 1) / 2, _, rfl, F6, N6, by walk_at "lk", by walk_at "lk", by walk_at "lk", by rw [← half_eq (by omega)]; walk_at "lk", eq, by omega, by rw [List.length_set]; omega, by rw [List.length_set]; omega, set_all hys (hys _ (getD_mem (by omega)))⟩
      · rw [if_neg hlt]
        rw [if_neg hlt] at eq
        repeat walk_at "w"
        exact ⟨_, _, _, ys, p, tp, rfl, F4, N4, by walk_at "lk", by walk_at "lk", by walk_at "lk", eq, hpl, hlen⟩
    · rw [if_neg (by simpa using hsp)]
      rw [sd_zero hsp] at eq
      exact ⟨_, _, _, ys, p, tp, rfl, F2, N2, by walk_at "lk", by walk_at "lk", by walk_at "lk", eq, hpl, hlen⟩
  · rintro s' ⟨h, tk, m, ys, p, tp, rfl, F2, N2, m1, m2, m3, eq, hpl, hlen⟩
    clear F1 N1
    (try dsimp only)
    repeat walk_at "w"
    refine set_refs p F2 N2 (by simp) rfl hpl (by omega) ?_
    intro h5 F5 N5
    repeat walk_at "w"
    rw [eq] at N5
    exact k _ _ (fun b o nb e => F5.keep _ _ (kp b o nb e)) (N5 _ (List.mem_cons_self ..)).1

theorem siftupM_c {w : World} {A : Around} {s : Shared} {G : Heap} {R : Result → Shared → Prop} {mean : ExcName → Option Value} {mg mb : Str → Option Value} (S : Sta w G mean mg mb) (st : G.StaysIn s.heap)
   {r : Nat → Int} {n : Nat} {adr : Nat → Addr} {H : Addr} {xs : List Nat} {e : Nat} {p0 : Nat} {t1 : Tok} (hH : G.get? H = none) (hl : s.heap.get? H = some (listOf (refs adr xs).toArray e)) (hpos : p0 < xs.length) (hfit : xs.length ≤ 1000)
   (hI : Its r n adr s.heap) (hxs : ∀ k ∈ xs, k < n) (hroom : A.depth + 1 < recursionLimit) (hunits : A.units + 20 < cLine)
   (k : ∀ h' tk, Kp [H] s.heap h' → h'.get? H = some (listOf (refs adr (siftup (rgt r) xs p0)).toArray e) → R (.ok (.ret .none)) { s with heap := h', toks := tk }) :
   codeAny (model PG w) A (.call (.ref 70) ⟨[.ref H, .int p0 t1], []⟩) R s := by
  refine' enterP (W := [H]) [(Str.ofString "heap", .ref H), (Str.ofString "pos", .int p0 t1)] S st (by simpa using hH) ?k6 ?k7 (by omega) ?k9 ?kB ?_ ?c2 ?c3 ?c4 ?c5
  (case k6 => k_is)
  (case k7 => k_is)
  (case k9 => exact BindsTo.of_eq rfl)
  (case c5 => decide)
  (case kB => exact locs rfl)
  (case c2 => exact rfl)
  (case c3 => exact rfl)
  (case c4 => exact rfl)
  intro g L h₁ kp hg kk F sg X' T'
  try dsimp only
  have N : News g L h₁ [(H, listOf (refs adr xs).toArray e)] := fun p hp => by
    rw [List.mem_singleton.mp hp]; exact ⟨(kk _ _ hl).1, (kk _ _ hl).2, hg _ (by simp)⟩
  have hIg : Its r n adr g := hI.kp hl kp
  clear kk
  repeat walk_at "w"
  (rename Fr _ _ _ _ => F1); (rename News _ _ _ _ => N1)
  refine sub_refs p0 N1 rfl hpos hfit ?_
  (try dsimp only)
  walk_at "ws"
  walk_at "w"
  walk_at "ws"
  rw [show 2 * (p0 : Int) + 1 = ((2 * p0 + 1 : Nat) : Int) by omega]
  repeat walk_at "w"
  (rename Fr _ _ _ _ => F2); (rename News _ _ _ _ => N2)
  refine while_post (fun f s' => ∃ h tk m ys p tp tc, s' = { s with heap := h, toks := tk } ∧ Fr g L h m ∧ News g L h [(H, listOf (refs adr ys).toArray e)] ∧ m (Str.ofString "heap") = some (.ref H) ∧ (∃ t, m (Str.ofString "endpos") = some (.int xs.length t)) ∧ m (Str.ofString "startpos") = some (.int p0 t1) ∧ m (Str.ofString "newitem") = some (.ref (adr (xs.getD p0 0))) ∧
      m (Str.ofString "pos") = some (.int (p : Nat) tp) ∧ m (Str.ofString "childpos") = some (.int (2 * p + 1 : Nat) tc) ∧
      suGo (rgt r) f p ys = suGo (rgt r) xs.length p0 xs ∧ ys.length ≤ p + f ∧ p < ys.length ∧ ys.length = xs.length ∧ ∀ k ∈ ys, k < n)
    (fun s' => ∃ h tk m ys p tp, s' = { s with heap := h, toks := tk } ∧ Fr g L h m ∧ News g L h [(H, listOf (refs adr ys).toArray e)] ∧ m (Str.ofString "heap") = some (.ref H) ∧ m (Str.ofString "startpos") = some (.int p0 t1) ∧ m (Str.ofString "newitem") = some (.ref (adr (xs.getD p0 0))) ∧ m (Str.ofString "pos") = some (.int (p : Nat) tp) ∧
      (p, ys) = suGo (rgt r) xs.length p0 xs ∧ p < ys.length ∧ ys.length = xs.length ∧ ∀ k ∈ ys, k < n)
    xs.length ⟨_, _, _, xs, p0, _, _, rfl, F2, N2, by walk_at "lk", ⟨_, by walk_at "lk"⟩, by walk_at "lk", by walk_at "lk", by walk_at "lk", by walk_at "lk", rfl, by omega, hpos, rfl, hxs⟩ ?_ ?_
  · rintro f s' ⟨h, tk, m, ys, p, tp, tc, rfl, F3, N3, m1, ⟨te, m2⟩, m3, m4, m5, m6, eq, hpf, hpl, hlen, hys⟩
    clear F2 N2
    repeat walk_at "w"
    by_cases hc : 2 * p + 1 < xs.length
    · rw [if_pos (by simp; omega)]
      obtain ⟨f, rfl⟩ : ∃ f', f = f' + 1 := ⟨f - 1, by omega⟩
      rw [suGo, if_pos (by omega)] at eq
      walk_at "ws"
      rw [show ((2 * p + 1 : Nat) : Int) + 1 = ((2 * p + 2 : Nat) : Int) by omega]
      repeat walk_at "w"
      (rename Fr _ _ _ _ => F4); (rename News _ _ _ _ => N4)
      by_cases hr : 2 * p + 2 < ys.length
      · rw [if_pos (by simp; omega)]
        repeat walk_at "w"
        refine sub_refs (2 * p + 2) N4 rfl (by omega) (by omega) ?_
        (try dsimp only)
        repeat walk_at "w"
        refine sub_refs (2 * p + 1) N4 rfl (by omega) (by omega) ?_
        (try dsimp only)
        refine lt_cM F4 hIg (hys _ (getD_mem (by omega))) (hys _ (getD_mem (by omega))) (by show A.units + 3 < cLine; omega) ?_
        (try dsimp only)
        repeat walk_at "w"
        cases hb : rgt r (ys.getD (2 * p + 1) 0) (ys.getD (2 * p + 2) 0) with
        | false =>
          have hch : child (rgt r) ys p = 2 * p + 2 := by unfold child; rw [if_pos ⟨hr, hb⟩]
          rw [hch] at eq
          rw [if_pos (show (!false) = true from rfl)]
          repeat walk_at "w"
          rw [if_pos (show true = true from rfl)]
          repeat walk_at "w"
          (rename Fr _ _ _ _ => F5); (rename News _ _ _ _ => N5)
          refine sub_refs (2 * p + 2) N5 rfl (by omega) (by omega) ?_
          (try dsimp only)
          repeat walk_at "w"
          refine set_refs p F5 N5 (by simp) rfl hpl (by omega) ?_
          intro h6 F6 N6
          walk_at "ws"
          walk_at "w"
          walk_at "ws"
          rw [show 2 * ((2 * p + 2 : Nat) : Int) + 1 = ((2 * (2 * p + 2) + 1 : Nat) : Int) by omega]
          repeat walk_at "w"
          (rename Fr _ _ _ _ => F7); (rename News _ _ _ _ => N7)
          exact ⟨f, by omega, _, _, _, _, 2 * p + 2, _, _, rfl, F7, N7, by walk_at "lk", ⟨_, by walk_at "lk"⟩, by walk_at "lk", by walk_at "lk", by walk_at "lk", by walk_at "lk", eq, by rw [List.length_set]; omega, by rw [List.length_set]; omega, by rw [List.length_set]; omega, set_all hys (hys _ (getD_mem (by omega)))⟩
        | true =>
          have hch : child (rgt r) ys p = 2 * p + 1 := by unfold child; rw [if_neg (fun h => by rw [hb] at h; exact absurd h.2 (by simp))]
          rw [hch] at eq
          rw [if_neg (show ¬ (!true) = true by simp), if_neg Bool.false_ne_true]
          repeat walk_at "w"
          (rename Fr _ _ _ _ => F5); (rename News _ _ _ _ => N5)
          refine sub_refs (2 * p + 1) N5 rfl (by omega) (by omega) ?_
          (try dsimp only)
          repeat walk_at "w"
          refine set_refs p F5 N5 (by simp) rfl hpl (by omega) ?_
          intro h6 F6 N6
          walk_at "ws"
          walk_at "w"
          walk_at "ws"
          rw [show 2 * ((2 * p + 1 : Nat) : Int) + 1 = ((2 * (2 * p + 1) + 1 : Nat) : Int) by omega]
          repeat walk_at "w"
          (rename Fr _ _ _ _ => F7); (rename News _ _ _ _ => N7)
          exact ⟨f, by omega, _, _, _, _, 2 * p + 1, _, _, rfl, F7, N7, by walk_at "lk", ⟨_, by walk_at "lk"⟩, by walk_at "lk", by walk_at "lk", by walk_at "lk", by walk_at "lk", eq, by rw [List.length_set]; omega, by rw [List.length_set]; omega, by rw [List.length_set]; omega, set_all hys (hys _ (getD_mem (by omega)))⟩
      · have hch : child (rgt r) ys p = 2 * p + 1 := by unfold child; rw [if_neg (fun h => hr h.1)]
        rw [hch] at eq
        rw [if_neg (by simp; omega), if_neg Bool.false_ne_true]
        repeat walk_at "w"
        (rename Fr _ _ _ _ => F5); (rename News _ _ _ _ => N5)
        refine sub_refs (2 * p + 1) N5 rfl (by omega) (by omega) ?_
        (try dsimp only)
        repeat walk_at "w"
        refine set_refs p F5 N5 (by simp) rfl hpl (by omega) ?_
        intro h6 F6 N6
        walk_at "ws"
        walk_at "w"
        walk_at "ws"
        rw [show 2 * ((2 * p + 1 : Nat) : Int) + 1 = ((2 * (2 * p + 1) + 1 : Nat) : Int) by omega]
        repeat walk_at "w"
        (rename Fr _ _ _ _ => F7); (rename News _ _ _ _ => N7)
        exact ⟨f, by omega, _, _, _, _, 2 * p + 1, _, _, rfl, F7, N7, by walk_at "lk", ⟨_, by walk_at "lk"⟩, by walk_at "lk", by walk_at "lk", by walk_at "lk", by walk_at "lk", eq, by rw [List.length_set]; omega, by rw [List.length_set]; omega, by rw [List.length_set]; omega, set_all hys (hys _ (getD_mem (by omega)))⟩
    · rw [if_neg (by simp; omega)]
      have eq' : suGo (rgt r) f p ys = (p, ys) := by
        cases f with
        | zero => rfl
        | succ f => unfold suGo; rw [if_neg (by omega)]
      exact ⟨_, _, _, ys, p, _, rfl, F3, N3, m1, m3, m4, m5, by rw [← eq, eq'], hpl, hlen, hys⟩
  · rintro s' ⟨h, tk, m, ys, p, tp, rfl, F3, N3, m1, m3, m4, m5, eq, hpl, hlen, hys⟩
    clear F2 N2
    (try dsimp only)
    repeat walk_at "w"
    refine set_refs p F3 N3 (by simp) rfl hpl (by omega) ?_
    intro h5 F5 N5
    repeat walk_at "w"
    have esu : siftup (rgt r) xs p0 = siftdown (rgt r) (ys.set p (xs.getD p0 0)) p0 p := by unfold siftup; rw [← eq]
    refine ⟨X'.keeps F5.keep, ?_⟩
    (try dsimp only [List.nil_append, List.cons_append])
    refine wpAny_call ?_
    refine' siftdownM_c S ?st hH ?hl ?hp ?hf ?hI ?hx ?hr ?hu ?k
    (case st => exact fun b o e => F5.keep _ _ (sg b o e))
    (case hl => exact (N5 _ (List.mem_cons_self ..)).1)
    (case hp => rw [List.length_set]; exact hpl)
    (case hf => rw [List.length_set]; omega)
    (case hI => exact hIg.keeps F5.keep)
    (case hx => exact set_all hys (hxs _ (getD_mem hpos)))
    (case hr => show A.depth + 1 < _; omega)
    (case hu => show A.units + 3 + 10 < _; omega)
    intro h' tk' kp' hl'
    (try dsimp only)
    repeat walk_at "w"
    rw [← esu] at hl'
    exact k _ _ (fun b o nb e => kp' _ _ nb (F5.keep _ _ (kp b o nb e))) hl'
end Mine
end

section
open PySem PySem.W PyProof.Rows PySem.Calls PySem.SeqAt
set_option Elab.async false
set_option linter.unusedVariables false
set_option maxRecDepth 100000
set_option maxHeartbeats 8000000
namespace Mine
local macro_rules | `(tactic| walk_at "lk") => `(tactic| first | assumption | exact rfl | (refine lkY ?_; exact rfl) | (refine lkN (by decide) ?_; walk_at "lk"))
local macro_rules | `(tactic| walk_at "eval Name") => `(tactic| (k_here; k_dflt (refine' nameX_L ?F ?v ?_ ?a ?b; (case F => with_reducible assumption); (case a => rfl); (case b => rfl); (case v => walk_at "lk"); k_whole)))
local macro_rules | `(tactic| walk_at "w") => `(tactic| ((try dsimp only); (with_reducible show wpAny _ _ _ _ _ _); (fail_if_success (with_reducible show wpAny _ _ (exec (Stmt.While _ _ _ _) _) _ _ _)); (fail_if_success (with_reducible show wpAny _ _ (exec (Stmt.For _ _ _ _ _) _) _ _ _)); (fail_if_success (with_reducible show wpAny _ _ (subscriptTail _ _ (Value.ref _) _) _ _ _)); (fail_if_success (with_reducible show wpAny _ _ (setItem (Value.ref _) _ _) _ _ _)); (fail_if_success (with_reducible show wpAny _ _ (compareOp _ (Value.ref _) (Value.ref _)) _ _ _)); (fail_if_success (with_reducible show wpAny _ _ (call (Value.ref _) _ _) _ _ _)); walk1; (try dsimp only)))
local macro_rules | `(tactic| walk_at "ws") => `(tactic| repeat ((fail_if_success (with_reducible show wpAny _ _ (storeName _ _ _) _ _ _)); walk_at "w"))
local macro_rules | `(tactic| walk_at "call builtin:len") => `(tactic| ((with_reducible refine len_refs (by with_reducible assumption) ?_ ?_); (omega)))


theorem fillWB (w : World) (s : Shared) (A : Around) (h : (hd.heap_39 w.params).In s.heap → wpAny (model Challenge.rw_dj5012_01.row.prog w) A (pure ()) (fun _ _ => True) (fun _ _ => False) s) :
   (hd.heap_39 w.params).In s.heap → wpAny (model Challenge.rw_dj5012_01.row.prog w) A (pure ()) (fun _ _ => True) (fun _ _ => False) s := by
  k_fill
  exact h

theorem heapify_c {w : World} {A : Around} {s : Shared} {G : Heap} {R : Result → Shared → Prop} {mean : ExcName → Option Value} {mg mb : Str → Option Value} (S : Sta w G mean mg mb) (st : G.StaysIn s.heap)
   {r : Nat → Int} {n : Nat} {adr : Nat → Addr} {H : Addr} {xs : List Nat} {e : Nat} (hH : G.get? H = none) (hl : s.heap.get? H = some (listOf (refs adr xs).toArray e)) (hfit : xs.length ≤ 1000)
   (hI : Its r n adr s.heap) (hxs : ∀ k ∈ xs, k < n) (hroom : A.depth + 2 < recursionLimit) (hunits : A.units + 30 < cLine) (hh : A.handled = none)
   (k : ∀ h' tk, Kp [H] s.heap h' → h'.get? H = some (listOf (refs adr (heapify (rlt r) xs)).toArray e) → R (.ok (.ret .none)) { s with heap := h', toks := tk }) :
   codeAny (model PG w) A (.call (.ref 28) ⟨[.ref H], []⟩) R s := by
  refine' enterP (W := [H]) [(Str.ofString "x", .ref H)] S st (by simpa using hH) ?k6 ?k7 (by omega) ?k9 ?kB ?_ ?c2 ?c3 ?c4 ?c5
  (case k6 => k_is)
  (case k7 => k_is)
  (case k9 => exact BindsTo.of_eq rfl)
  (case c5 => decide)
  (case kB => exact locs rfl)
  (case c2 => exact rfl)
  (case c3 => exact rfl)
  (case c4 => exact rfl)
  intro g L h₁ kp hg kk F sg X' T'
  try dsimp only
  have N : News g L h₁ [(H, listOf (refs adr xs).toArray e)] := fun p hp => by
    rw [List.mem_singleton.mp hp]; exact ⟨(kk _ _ hl).1, (kk _ _ hl).2, hg _ (by simp)⟩
  have hIg : Its r n adr g := hI.kp hl kp
  clear kk
  repeat walk_at "w"
  (rename Fr _ _ _ _ => F1); (rename News _ _ _ _ => N1)
  refine wpAny_For ?_ (by intro _; with_unfolding_all rfl)
  repeat walk_at "w"
  (rename IsRange _ _ _ _ _ _ _ _ => hR); (rename Fr _ _ _ _ => F2); (rename News _ _ _ _ => N2)
  rw [show ((xs.length : Nat) : Int).fdiv 2 = ((xs.length / 2 : Nat) : Int) by rw [Int.fdiv_eq_ediv_of_nonneg _ (by omega)]; omega] at hR
  refine call_reversed_range hR (by omega) ?_
  (try dsimp only)
  refine wpAny_pyIter_rangeiter (Heap.get?_push_size _ rfl) ?_
  have hgI := F2.fresh
  have hLI := Nat.ne_of_lt F2.ns.lt
  have hHI := Nat.ne_of_lt (Heap.lt_size (N2 _ (List.mem_cons_self ..)).1)
  rename_i hx _ _ _ _ _
  have F3 := F2.push (riObj (((xs.length / 2 : Nat) : Int) - 1) ((xs.length / 2 : Nat) : Int) (-1))
  have N3 := N2.push F2 (riObj (((xs.length / 2 : Nat) : Int) - 1) ((xs.length / 2 : Nat) : Int) (-1))
  generalize hcnt : xs.length / 2 = cnt at F3 N3 ⊢
  generalize hIa : hx.objs.size = I at F3 N3 hgI hLI hHI ⊢
  have N4 : News g L _ [(H, listOf (refs adr xs).toArray e), (I, riObj ((cnt : Int) - 1 + (0 : Nat) * (-1)) ((cnt : Int) - (0 : Nat)) (-1))] := fun p hp => by
    rcases List.mem_cons.mp hp with rfl | hp
    · exact N3 _ (List.mem_cons_of_mem _ (List.mem_cons_self ..))
    · rw [List.mem_singleton.mp hp]
      have := N3 _ (List.mem_cons_self ..)
      simpa using this
  clear N3
  refine for_walks (Walks.range (A := A.deeper _) hh I ((cnt : Int) - 1) (-1) cnt) (fun i s' => ∃ h tk m ys, s' = { s with heap := h, toks := tk } ∧ Fr g L h m ∧
      News g L h [(H, listOf (refs adr ys).toArray e), (I, riObj ((cnt : Int) - 1 + (i : Nat) * (-1)) ((cnt : Int) - (i : Nat)) (-1))] ∧ m (Str.ofString "x") = some (.ref H) ∧
      heapifyGo (rlt r) (cnt - i) ys = heapify (rlt r) xs ∧ ys.length = xs.length ∧ ∀ k ∈ ys, k < n)
    ⟨_, _, _, xs, rfl, F3, N4, by walk_at "lk", by rw [← hcnt]; rfl, rfl, hxs⟩ ?_ ?_ ?_
  · rintro i s' ⟨h, tk, m, ys, rfl, F5, N5, _⟩
    exact (N5 _ (List.mem_cons_of_mem _ (List.mem_cons_self ..))).1
  · rintro i s' v h1 tk1 hi ⟨h, tk, m, ys, rfl, F5, N5, m1, eq, hlen, hys⟩ ⟨t, rfl⟩ hst hkp
    (try dsimp only)
    have F6 := frKp F5 hkp (by simpa using hLI) (by simpa using hgI)
    have N6 : News g L h1 [(H, listOf (refs adr ys).toArray e), (I, riObj ((cnt : Int) - 1 + (i + 1 : Nat) * (-1)) ((cnt : Int) - (i + 1 : Nat)) (-1))] := fun p hp => by
      rcases List.mem_cons.mp hp with rfl | hp
      · exact ⟨hkp _ _ (by simpa using hHI) (N5 _ (List.mem_cons_self ..)).1, (N5 _ (List.mem_cons_self ..)).2⟩
      · rw [List.mem_singleton.mp hp]; exact ⟨hst, Ne.symm hLI, hgI⟩
    rw [show (cnt : Int) - 1 + (i : Nat) * (-1) = ((cnt - 1 - i : Nat) : Int) by omega]
    repeat walk_at "w"
    (rename Fr _ _ _ _ => F7); (rename News _ _ _ _ => N7)
    refine ⟨X'.keeps F7.keep, ?_⟩
    (try dsimp only [List.nil_append, List.cons_append])
    refine wpAny_call ?_
    refine' siftup_c S ?st hH ?hl ?hp ?hf ?hI ?hx ?hr ?hu ?k
    (case st => exact fun b o e => F7.keep _ _ (sg b o e))
    (case hl => exact (N7 _ (List.mem_cons_self ..)).1)
    (case hp => omega)
    (case hf => omega)
    (case hI => exact hIg.keeps F7.keep)
    (case hx => exact hys)
    (case hr => show A.depth + 1 + 1 < _; omega)
    (case hu => show A.units + 3 + 20 < _; omega)
    intro h' tk' kp' hl'
    (try dsimp only)
    repeat walk_at "w"
    have hH7 := (N7 _ (List.mem_cons_self ..))
    refine ⟨_, _, _, siftup (rlt r) ys (cnt - 1 - i), rfl, frKp F7 kp' (by simpa using (Ne.symm hH7.2.1)) (by simpa using hH7.2.2), ?_, by walk_at "lk", ?_, by rw [siftup_length]; exact hlen, fun k hk => hys k ((siftup_perm (by omega)).subset hk)⟩
    · intro p hp
      rcases List.mem_cons.mp hp with rfl | hp
      · exact ⟨hl', hH7.2⟩
      · have := N7 _ (List.mem_cons_of_mem _ hp)
        rw [List.mem_singleton.mp hp] at this ⊢
        exact ⟨kp' _ _ (by simpa using (Ne.symm hHI)) this.1, this.2⟩
    · rw [← eq, show cnt - i = (cnt - 1 - i) + 1 by omega, heapifyGo, show cnt - (i + 1) = cnt - 1 - i by omega]
  · rintro s' h1 tk1 ⟨h, tk, m, ys, rfl, F5, N5, m1, eq, hlen, hys⟩ hkp
    (try dsimp only)
    repeat walk_at "w"
    have hH5 := (N5 _ (List.mem_cons_self ..))
    rw [show cnt - cnt = 0 by omega] at eq
    rw [← eq] at k
    exact k _ _ (fun b o nb eb => by
      have hb := F5.keep _ _ (kp b o nb eb)
      exact hkp b o (fun q => by rw [List.mem_singleton.mp q] at eb; have := kp I o (by simpa using (Ne.symm hHI)) eb; rw [hgI] at this; cases this) hb) (hkp _ _ (by simpa using hHI) hH5.1)

theorem heappop_c {w : World} {A : Around} {s : Shared} {G : Heap} {R : Result → Shared → Prop} {mean : ExcName → Option Value} {mg mb : Str → Option Value} (S : Sta w G mean mg mb) (st : G.StaysIn s.heap)
   {r : Nat → Int} {n : Nat} {adr : Nat → Addr} {H : Addr} {xs : List Nat} {e : Nat} (hH : G.get? H = none) (hl : s.heap.get? H = some (listOf (refs adr xs).toArray e)) (hne : 0 < xs.length) (hfit : xs.length ≤ 1000)
   (hI : Its r n adr s.heap) (hxs : ∀ k ∈ xs, k < n) (hroom : A.depth + 2 < recursionLimit) (hunits : A.units + 30 < cLine)
   (k : ∀ h' tk e', Kp [H] s.heap h' → h'.get? H = some (listOf (refs adr (popRest (rlt r) xs)).toArray e') → R (.ok (.ret (.ref (adr (xs.getD 0 0))))) { s with heap := h', toks := tk }) :
   codeAny (model PG w) A (.call (.ref 21) ⟨[.ref H], []⟩) R s := by
  refine' enterP (W := [H]) [(Str.ofString "heap", .ref H)] S st (by simpa using hH) ?k6 ?k7 (by omega) ?k9 ?kB ?_ ?c2 ?c3 ?c4 ?c5
  (case k6 => k_is)
  (case k7 => k_is)
  (case k9 => exact BindsTo.of_eq rfl)
  (case c5 => decide)
  (case kB => exact locs rfl)
  (case c2 => exact rfl)
  (case c3 => exact rfl)
  (case c4 => exact rfl)
  intro g L h₁ kp hg kk F sg X' T'
  try dsimp only
  have N : News g L h₁ [(H, listOf (refs adr xs).toArray e)] := fun p hp => by
    rw [List.mem_singleton.mp hp]; exact ⟨(kk _ _ hl).1, (kk _ _ hl).2, hg _ (by simp)⟩
  have hIg : Its r n adr g := hI.kp hl kp
  clear kk
  repeat walk_at "w"
  refine pop_refs F N hne hfit ?_
  intro h1 F1 N1
  repeat walk_at "w"
  (rename Fr _ _ _ _ => F2); (rename News _ _ _ _ => N2)
  have hdl : xs.dropLast.length = xs.length - 1 := List.length_dropLast
  refine truthy_refs N2 (by omega) ?_
  (try dsimp only)
  by_cases he : xs.dropLast = []
  · rw [if_neg (by simp [he])]
    rw [he] at hdl
    have hx1 : xs.length = 1 := by rw [List.length_nil] at hdl; omega
    repeat walk_at "w"
    rw [hx1]
    refine k _ _ (e + 1) (fun b o nb eb => F2.keep _ _ (kp b o nb eb)) ?_
    have := (N2 _ (List.mem_cons_self ..)).1
    rw [he] at this
    rw [popRest, if_pos hx1]
    exact this
  · have hpos : 0 < xs.dropLast.length := List.length_pos_iff.mpr he
    rw [if_pos (by simp [he])]
    repeat walk_at "w"
    refine sub_refs 0 N2 rfl hpos (by omega) ?_
    (try dsimp only)
    repeat walk_at "w"
    (rename Fr _ _ _ _ => F3); (rename News _ _ _ _ => N3)
    refine set_refs 0 F3 N3 (by simp) rfl hpos (by omega) ?_
    intro h4 F4 N4
    repeat walk_at "w"
    refine ⟨X'.keeps F4.keep, ?_⟩
    (try dsimp only [List.nil_append, List.cons_append])
    refine wpAny_call ?_
    refine' siftup_c S ?st hH ?hl (p0 := 0) ?hp ?hf ?hI ?hx ?hr ?hu ?k
    (case st => exact fun b o e => F4.keep _ _ (sg b o e))
    (case hl => exact (N4 _ (List.mem_cons_self ..)).1)
    (case hp => rw [List.length_set]; omega)
    (case hf => rw [List.length_set]; omega)
    (case hI => exact hIg.keeps F4.keep)
    (case hx => exact set_all (fun k hk => hxs k (List.dropLast_subset _ hk)) (hxs _ (getD_mem (by omega))))
    (case hr => show A.depth + 1 + 1 < _; omega)
    (case hu => show A.units + 3 + 20 < _; omega)
    intro h' tk' kp' hl'
    (try dsimp only)
    have hH4 := (N4 _ (List.mem_cons_self ..))
    have F5 := frKp F4 kp' (by simpa using (Ne.symm hH4.2.1)) (by simpa using hH4.2.2)
    repeat walk_at "w"
    have e0 : xs.dropLast.getD 0 0 = xs.getD 0 0 := by
      rw [List.getD_eq_getElem?_getD, List.getD_eq_getElem?_getD, List.getElem?_dropLast, if_pos (by omega)]
    rw [e0]
    refine k _ _ (e + 1) (fun b o nb eb => F5.keep _ _ (kp b o nb eb)) ?_
    rw [popRest, if_neg (by omega)]
    exact hl'

theorem heapifyM_c {w : World} {A : Around} {s : Shared} {G : Heap} {R : Result → Shared → Prop} {mean : ExcName → Option Value} {mg mb : Str → Option Value} (S : Sta w G mean mg mb) (st : G.StaysIn s.heap)
   {r : Nat → Int} {n : Nat} {adr : Nat → Addr} {H : Addr} {xs : List Nat} {e : Nat} (hH : G.get? H = none) (hl : s.heap.get? H = some (listOf (refs adr xs).toArray e)) (hfit : xs.length ≤ 1000)
   (hI : Its r n adr s.heap) (hxs : ∀ k ∈ xs, k < n) (hroom : A.depth + 2 < recursionLimit) (hunits : A.units + 30 < cLine) (hh : A.handled = none)
   (k : ∀ h' tk, Kp [H] s.heap h' → h'.get? H = some (listOf (refs adr (heapify (rgt r) xs)).toArray e) → R (.ok (.ret .none)) { s with heap := h', toks := tk }) :
   codeAny (model PG w) A (.call (.ref 42) ⟨[.ref H], []⟩) R s := by
  refine' enterP (W := [H]) [(Str.ofString "x", .ref H)] S st (by simpa using hH) ?k6 ?k7 (by omega) ?k9 ?kB ?_ ?c2 ?c3 ?c4 ?c5
  (case k6 => k_is)
  (case k7 => k_is)
  (case k9 => exact BindsTo.of_eq rfl)
  (case c5 => decide)
  (case kB => exact locs rfl)
  (case c2 => exact rfl)
  (case c3 => exact rfl)
  (case c4 => exact rfl)
  intro g L h₁ kp hg kk F sg X' T'
  try dsimp only
  have N : News g L h₁ [(H, listOf (refs adr xs).toArray e)] := fun p hp => by
    rw [List.mem_singleton.mp hp]; exact ⟨(kk _ _ hl).1, (kk _ _ hl).2, hg _ (by simp)⟩
  have hIg : Its r n adr g := hI.kp hl kp
  clear kk
  repeat walk_at "w"
  (rename Fr _ _ _ _ => F1); (rename News _ _ _ _ => N1)
  refine wpAny_For ?_ (by intro _; with_unfolding_all rfl)
  repeat walk_at "w"
  (rename IsRange _ _ _ _ _ _ _ _ => hR); (rename Fr _ _ _ _ => F2); (rename News _ _ _ _ => N2)
  rw [show ((xs.length : Nat) : Int).fdiv 2 = ((xs.length / 2 : Nat) : Int) by rw [Int.fdiv_eq_ediv_of_nonneg _ (by omega)]; omega] at hR
  refine call_reversed_range hR (by omega) ?_
  (try dsimp only)
  refine wpAny_pyIter_rangeiter (Heap.get?_push_size _ rfl) ?_
  have hgI := F2.fresh
  have hLI := Nat.ne_of_lt F2.ns.lt
  have hHI := Nat.ne_of_lt (Heap.lt_size (N2 _ (List.mem_cons_self ..)).1)
  rename_i hx _ _ _ _ _
  have F3 := F2.push (riObj (((xs.length / 2 : Nat) : Int) - 1) ((xs.length / 2 : Nat) : Int) (-1))
  have N3 := N2.push F2 (riObj (((xs.length / 2 : Nat) : Int) - 1) ((xs.length / 2 : Nat) : Int) (-1))
  generalize hcnt : xs.length / 2 = cnt at F3 N3 ⊢
  generalize hIa : hx.objs.size = I at F3 N3 hgI hLI hHI ⊢
  have N4 : News g L _ [(H, listOf (refs adr xs).toArray e), (I, riObj ((cnt : Int) - 1 + (0 : Nat) * (-1)) ((cnt : Int) - (0 : Nat)) (-1))] := fun p hp => by
    rcases List.mem_cons.mp hp with rfl | hp
    · exact N3 _ (List.mem_cons_of_mem _ (List.mem_cons_self ..))
    · rw [List.mem_singleton.mp hp]
      have := N3 _ (List.mem_cons_self ..)
      simpa using this
  clear N3
  refine for_walks (Walks.range (A := A.deeper _) hh I ((cnt : Int) - 1) (-1) cnt) (fun i s' => ∃ h tk m ys, s' = { s with heap := h, toks := tk } ∧ Fr g L h m ∧
      News g L h [(H, listOf (refs adr ys).toArray e), (I, riObj ((cnt : Int) - 1 + (i : Nat) * (-1)) ((cnt : Int) - (i : Nat)) (-1))] ∧ m (Str.ofString "x") = some (.ref H) ∧
      heapifyGo (rgt r) (cnt - i) ys = heapify (rgt r) xs ∧ ys.length = xs.length ∧ ∀ k ∈ ys, k < n)
    ⟨_, _, _, xs, rfl, F3, N4, by walk_at "lk", by rw [← hcnt]; rfl, rfl, hxs⟩ ?_ ?_ ?_
  · rintro i s' ⟨h, tk, m, ys, rfl, F5, N5, _⟩
    exact (N5 _ (List.mem_cons_of_mem _ (List.mem_cons_self ..))).1
  · rintro i s' v h1 tk1 hi ⟨h, tk, m, ys, rfl, F5, N5, m1, eq, hlen, hys⟩ ⟨t, rfl⟩ hst hkp
    (try dsimp only)
    have F6 := frKp F5 hkp (by simpa using hLI) (by simpa using hgI)
    have N6 : News g L h1 [(H, listOf (refs adr ys).toArray e), (I, riObj ((cnt : Int) - 1 + (i + 1 : Nat) * (-1)) ((cnt : Int) - (i + 1 : Nat)) (-1))] := fun p hp => by
      rcases List.mem_cons.mp hp with rfl | hp
      · exact ⟨hkp _ _ (by simpa using hHI) (N5 _ (List.mem_cons_self ..)).1, (N5 _ (List.mem_cons_self ..)).2⟩
      · rw [List.mem_singleton.mp hp]; exact ⟨hst, Ne.symm hLI, hgI⟩
    rw [show (cnt : Int) - 1 + (i : Nat) * (-1) = ((cnt - 1 - i : Nat) : Int) by omega]
    repeat walk_at "w"
    (rename Fr _ _ _ _ => F7); (rename News _ _ _ _ => N7)
    refine ⟨X'.keeps F7.keep, ?_⟩
    (try dsimp only [List.nil_append, List.cons_append])
    refine wpAny_call ?_
    refine' siftupM_c S ?st hH ?hl ?hp ?hf ?hI ?hx ?hr ?hu ?k
    (case st => exact fun b o e => F7.keep _ _ (sg b o e))
    (case hl => exact (N7 _ (List.mem_cons_self ..)).1)
    (case hp => omega)
    (case hf => omega)
    (case hI => exact hIg.keeps F7.keep)
    (case hx => exact hys)
    (case hr => show A.depth + 1 + 1 < _; omega)
    (case hu => show A.units + 3 + 20 < _; omega)
    intro h' tk' kp' hl'
    (try dsimp only)
    repeat walk_at "w"
    have hH7 := (N7 _ (List.mem_cons_self ..))
    refine ⟨_, _, _, siftup (rgt r) ys (cnt - 1 - i), rfl, frKp F7 kp' (by simpa using (Ne.symm hH7.2.1)) (by simpa using hH7.2.2), ?_, by walk_at "lk", ?_, by rw [siftup_length]; exact hlen, fun k hk => hys k ((siftup_perm (by omega)).subset hk)⟩
    · intro p hp
      rcases List.mem_cons.mp hp with rfl | hp
      · exact ⟨hl', hH7.2⟩
      · have := N7 _ (List.mem_cons_of_mem _ hp)
        rw [List.mem_singleton.mp hp] at this ⊢
        exact ⟨kp' _ _ (by simpa using (Ne.symm hHI)) this.1, this.2⟩
    · rw [← eq, show cnt - i = (cnt - 1 - i) + 1 by omega, heapifyGo, show cnt - (i + 1) = cnt - 1 - i by omega]
  · rintro s' h1 tk1 ⟨h, tk, m, ys, rfl, F5, N5, m1, eq, hlen, hys⟩ hkp
    (try dsimp only)
    repeat walk_at "w"
    have hH5 := (N5 _ (List.mem_cons_self ..))
    rw [show cnt - cnt = 0 by omega] at eq
    rw [← eq] at k
    exact k _ _ (fun b o nb eb => by
      have hb := F5.keep _ _ (kp b o nb eb)
      exact hkp b o (fun q => by rw [List.mem_singleton.mp q] at eb; have := kp I o (by simpa using (Ne.symm hHI)) eb; rw [hgI] at this; cases this) hb) (hkp _ _ (by simpa using hHI) hH5.1)

theorem heappopM_c {w : World} {A : Around} {s : Shared} {G : Heap} {R : Result → Shared → Prop} {mean : ExcName → Option Value} {mg mb : Str → Option Value} (S : Sta w G mean mg mb) (st : G.StaysIn s.heap)
   {r : Nat → Int} {n : Nat} {adr : Nat → Addr} {H : Addr} {xs : List Nat} {e : Nat} (hH : G.get? H = none) (hl : s.heap.get? H = some (listOf (refs adr xs).toArray e)) (hne : 0 < xs.length) (hfit : xs.length ≤ 1000)
   (hI : Its r n adr s.heap) (hxs : ∀ k ∈ xs, k < n) (hroom : A.depth + 2 < recursionLimit) (hunits : A.units + 30 < cLine)
   (k : ∀ h' tk e', Kp [H] s.heap h' → h'.get? H = some (listOf (refs adr (popRest (rgt r) xs)).toArray e') → R (.ok (.ret (.ref (adr (xs.getD 0 0))))) { s with heap := h', toks := tk }) :
   codeAny (model PG w) A (.call (.ref 35) ⟨[.ref H], []⟩) R s := by
  refine' enterP (W := [H]) [(Str.ofString "heap", .ref H)] S st (by simpa using hH) ?k6 ?k7 (by omega) ?k9 ?kB ?_ ?c2 ?c3 ?c4 ?c5
  (case k6 => k_is)
  (case k7 => k_is)
  (case k9 => exact BindsTo.of_eq rfl)
  (case c5 => decide)
  (case kB => exact locs rfl)
  (case c2 => exact rfl)
  (case c3 => exact rfl)
  (case c4 => exact rfl)
  intro g L h₁ kp hg kk F sg X' T'
  try dsimp only
  have N : News g L h₁ [(H, listOf (refs adr xs).toArray e)] := fun p hp => by
    rw [List.mem_singleton.mp hp]; exact ⟨(kk _ _ hl).1, (kk _ _ hl).2, hg _ (by simp)⟩
  have hIg : Its r n adr g := hI.kp hl kp
  clear kk
  repeat walk_at "w"
  refine pop_refs F N hne hfit ?_
  intro h1 F1 N1
  repeat walk_at "w"
  (rename Fr _ _ _ _ => F2); (rename News _ _ _ _ => N2)
  have hdl : xs.dropLast.length = xs.length - 1 := List.length_dropLast
  refine truthy_refs N2 (by omega) ?_
  (try dsimp only)
  by_cases he : xs.dropLast = []
  · rw [if_neg (by simp [he])]
    rw [he] at hdl
    have hx1 : xs.length = 1 := by rw [List.length_nil] at hdl; omega
    repeat walk_at "w"
    rw [hx1]
    refine k _ _ (e + 1) (fun b o nb eb => F2.keep _ _ (kp b o nb eb)) ?_
    have := (N2 _ (List.mem_cons_self ..)).1
    rw [he] at this
    rw [popRest, if_pos hx1]
    exact this
  · have hpos : 0 < xs.dropLast.length := List.length_pos_iff.mpr he
    rw [if_pos (by simp [he])]
    repeat walk_at "w"
    refine sub_refs 0 N2 rfl hpos (by omega) ?_
    (try dsimp only)
    repeat walk_at "w"
    (rename Fr _ _ _ _ => F3); (rename News _ _ _ _ => N3)
    refine set_refs 0 F3 N3 (by simp) rfl hpos (by omega) ?_
    intro h4 F4 N4
    repeat walk_at "w"
    refine ⟨X'.keeps F4.keep, ?_⟩
    (try dsimp only [List.nil_append, List.cons_append])
    refine wpAny_call ?_
    refine' siftupM_c S ?st hH ?hl (p0 := 0) ?hp ?hf ?hI ?hx ?hr ?hu ?k
    (case st => exact fun b o e => F4.keep _ _ (sg b o e))
    (case hl => exact (N4 _ (List.mem_cons_self ..)).1)
    (case hp => rw [List.length_set]; omega)
    (case hf => rw [List.length_set]; omega)
    (case hI => exact hIg.keeps F4.keep)
    (case hx => exact set_all (fun k hk => hxs k (List.dropLast_subset _ hk)) (hxs _ (getD_mem (by omega))))
    (case hr => show A.depth + 1 + 1 < _; omega)
    (case hu => show A.units + 3 + 20 < _; omega)
    intro h' tk' kp' hl'
    (try dsimp only)
    have hH4 := (N4 _ (List.mem_cons_self ..))
    have F5 := frKp F4 kp' (by simpa using (Ne.symm hH4.2.1)) (by simpa using hH4.2.2)
    repeat walk_at "w"
    have e0 : xs.dropLast.getD 0 0 = xs.getD 0 0 := by
      rw [List.getD_eq_getElem?_getD, List.getD_eq_getElem?_getD, List.getElem?_dropLast, if_pos (by omega)]
    rw [e0]
    refine k _ _ (e + 1) (fun b o nb eb => F5.keep _ _ (kp b o nb eb)) ?_
    rw [popRest, if_neg (by omega)]
    exact hl'
end Mine
end

section
open PySem PySem.W PyProof.Rows PySem.Calls PySem.SeqAt
set_option Elab.async false
set_option linter.unusedVariables false
set_option maxRecDepth 100000
set_option maxHeartbeats 4000000
namespace Mine

theorem Good.wpAt {α : Type} {lt : Nat → Nat → Bool} {n : Nat} {P : α → Prop} {cmp : Nat → Nat → (Bool → Shared → Prop) → Shared → Prop} {Q : α → Shared → Prop} {s : Shared}
    (hc : ∀ i j (C : Bool → Shared → Prop), i < n → j < n → C (lt i j) s → cmp i j C s) : ∀ {t : KasT α}, Good lt n P t → (∀ a, P a → Q a s) → t.kasWp cmp Q s
  | .ret _, h, hq => hq _ h
  | .ask _ _ _, h, hq => hc _ _ _ h.1 h.2.1 (Good.wpAt hc h.2.2 hq)

theorem katRev_getD (b : Bool) (vs : List Value) {i : Nat} (hi : i < vs.length) : (katRev b vs).getD i Value.none = vs.getD (if b = true then vs.length - 1 - i else i) Value.none := by
  cases b with
  | false => rfl
  | true =>
    unfold katRev
    simp only [if_true]
    rw [List.getD_eq_getElem?_getD, List.getD_eq_getElem?_getD, List.getElem?_reverse hi]

def LtSO (n : Nat) (L : Nat → Nat → Bool) : Prop := (∀ i, i < n → L i i = false) ∧ (∀ i j k, i < n → j < n → k < n → L i j = true → L j k = true → L i k = true) ∧ (∀ i j, i < n → j < n → i ≠ j → L i j = true ∨ L j i = true)

theorem perm_rev {n : Nat} {p : List Nat} (hp : p.Perm (List.range n)) : (p.map fun i => n - 1 - i).reverse.Perm (List.range n) := by
  refine (List.reverse_perm _).trans ?_
  have h1 : (p.map fun i => n - 1 - i).Perm ((List.range n).map fun i => n - 1 - i) := hp.map _
  refine h1.trans ?_
  have : (List.range n).map (fun i => n - 1 - i) = (List.range n).reverse := by
    apply List.ext_getElem (by simp)
    intro i h1 h2
    simp at h1 h2 ⊢
  rw [this]
  exact List.reverse_perm _

theorem zip_snd_l : ∀ vs : List Value, (vs.zip vs).map (fun x => x.snd) = vs
  | [] => rfl
  | v :: vs => by simp [zip_snd_l vs]
theorem zip_snd (vs : List Value) : Array.map (fun x => x.snd) (vs.toArray.zip vs.toArray) = vs.toArray := by
  apply Array.toList_inj.mp
  rw [Array.toList_map, ksk_zip]
  exact zip_snd_l vs

section
variable {prog : Program} {w : World} {A : Around} {E : Value → Shared → Prop} {s : Shared}

theorem srt_core {a : Addr} {vs : List Value} {n : Nat} {b : Bool} {κ : SortKind} {L : Nat → Nat → Bool} {P : PySem.Fin → Shared → Prop} (ho : s.heap.get? a = some (seqObj "list" vs.toArray n)) (h64 : vs.length < 64)
    (hk : 2 ≤ vs.length → ∀ s' : Shared, (∀ x o, x ≠ a → s.heap.get? x = some o → s'.heap.get? x = some o) → ∀ Q : SortKind → Shared → Prop, Q κ s' → wpAny (model prog w) A (keyKind' vs.toArray) Q E s')
    (hL : LtSO vs.length L)
    (hlt : ∀ s' : Shared, (∀ x o, x ≠ a → s.heap.get? x = some o → s'.heap.get? x = some o) → ∀ i j, i < vs.length → j < vs.length → ∀ Q : Bool → Shared → Prop, Q (L i j) s' →
      wpAny (model prog w) A (keyLt' κ (vs.getD i Value.none) (vs.getD j Value.none)) Q (fun _ _ => False) s')
    (h : ∀ (p : List Nat) (h' : Heap) (e : Nat), p.Perm (List.range vs.length) → p.Pairwise (fun i j => (if b = true then L j i else L i j) = true) → (∀ x o, x ≠ a → s.heap.get? x = some o → h'.get? x = some o) →
      h'.get? a = some (listOf (p.map fun i => vs.getD i Value.none).toArray e) → P (.done (.ret .none)) { s with heap := h' }) :
    wpAny (model prog w) A (Builtin.«list.sort» ⟨[.ref a], [(Str.ofString "reverse", .bool b)]⟩) P E s := by
  rw [list_sort_rev]
  have ha : a < s.heap.objs.size := Heap.lt_size ho
  refine wpAny_bind (listItems_at ho rfl ?_)
  refine wpAny_bind (listUpdate_at ho rfl ?_ (by rw [List.size_toArray, sizeLine_eq]; omega) (Nat.zero_le _))
  obtain ⟨e1, ho1⟩ : ∃ e1, (s.heap.update a (Obj.mapSeq fun _ => (#[] : Array Value))).get? a = some (seqObj "list" #[] e1) := ⟨_, get?_update_seq ho (fun _ => #[])⟩
  refine wpAny_bind (seqEpoch_at ho1 rfl ?_)
  refine wpAny_bind (wpAny_newTuple ?_ (by show vs.length ≤ _; rw [sizeLine_eq]; omega))
  refine wpAny_bind (wpAny_newList ?_ (Nat.zero_le _))
  refine wpAny_holding ?_
  have s1 := Heap.SameBut.update s.heap a (Obj.mapSeq fun _ => (#[] : Array Value))
  have ho6 : (((s.heap.update a (Obj.mapSeq fun _ => (#[] : Array Value))).push (seqObj "tuple" vs.toArray 0)).push (seqObj "list" #[] 0)).get? a = some (seqObj "list" #[] e1) :=
    Heap.get?_push_of_some _ (Heap.get?_push_of_some _ ho1)
  have kp6 : ∀ x o, x ≠ a → s.heap.get? x = some o → (((s.heap.update a (Obj.mapSeq fun _ => (#[] : Array Value))).push (seqObj "tuple" vs.toArray 0)).push (seqObj "list" #[] 0)).get? x = some o := fun x o hx e =>
    Heap.get?_push_of_some _ (Heap.get?_push_of_some _ ((s1.2 x hx).trans e))
  show wpAny (model prog w) A _ P E { s with heap := ((s.heap.update a (Obj.mapSeq fun _ => (#[] : Array Value))).push (seqObj "tuple" vs.toArray 0)).push (seqObj "list" #[] 0) }
  generalize hG : ((s.heap.update a (Obj.mapSeq fun _ => (#[] : Array Value))).push (seqObj "tuple" vs.toArray 0)).push (seqObj "list" #[] 0) = h6 at ho6 kp6 ⊢
  have hsz : vs.toArray.size = vs.length := by simp
  dsimp only
  have step : ∀ t : Sem PySem.Fin, wpAny (model prog w) A t P E { s with heap := h6 } → wpAny (model prog w) A (if b = true then (do let _ ← rule "list.sort.reverse"; t) else t) P E { s with heap := h6 } := by
    intro t ht
    split
    · exact wpAny_bind (wpAny_rule ht)
    · exact ht
  refine step _ ?_
  have fin : ∀ (vs' : List Value) (p : List Nat), vs' = (p.map fun i => vs.getD i Value.none) → p.Perm (List.range vs.length) → p.Pairwise (fun i j => (if b = true then L j i else L i j) = true) →
      P (.done (.ret .none)) { s with heap := h6.update a (Obj.mapSeq fun _ => vs'.toArray) } := by
    rintro vs' p rfl h1 h2
    have s2 := Heap.SameBut.update h6 a (Obj.mapSeq fun _ => (p.map fun i => vs.getD i Value.none).toArray)
    exact h p _ _ h1 h2 (fun x o hx e => (s2.2 x hx).trans (kp6 x o hx e)) (get?_update_seq ho6 fun _ => (p.map fun i => vs.getD i Value.none).toArray)
  by_cases h2 : vs.toArray.size < 2
  · rw [if_pos h2, if_pos h2]
    refine wpAny_bind (wpAny_pure ?_)
    rw [StateT.run_pure]
    refine wpAny_bind (wpAny_pure ?_)
    dsimp only
    have hshort : vs.length = 0 ∨ vs.length = 1 := by omega
    have e : (if b = true then (Array.map (fun x => x.snd) (arrOf (SortSt.mk' general' (if b = true then (vs.toArray.zip vs.toArray).reverse else vs.toArray.zip vs.toArray) #[] 7 none))).reverse
        else Array.map (fun x => x.snd) (arrOf (SortSt.mk' general' (if b = true then (vs.toArray.zip vs.toArray).reverse else vs.toArray.zip vs.toArray) #[] 7 none))) = vs.toArray := by
      show (if b = true then (Array.map (fun x => x.snd) (if b = true then (vs.toArray.zip vs.toArray).reverse else vs.toArray.zip vs.toArray)).reverse else Array.map (fun x => x.snd) (if b = true then (vs.toArray.zip vs.toArray).reverse else vs.toArray.zip vs.toArray)) = vs.toArray
      have hz : Array.map (fun x => x.snd) (vs.toArray.zip vs.toArray) = vs.toArray := zip_snd vs
      cases b with
      | false => exact hz
      | true =>
        simp only [if_true]
        rw [Array.map_reverse, Array.reverse_reverse]
        exact hz
    refine wpAny_bind (seqEpoch_at ho6 rfl ?_)
    rw [e]
    refine wpAny_bind (listUpdate_at ho6 rfl ?_ (Nat.zero_le _) (by rw [List.size_toArray, sizeLine_eq]; omega))
    simp only [bne_self_eq_false, Bool.false_eq_true, if_false]
    refine wpAny_pure (fin vs (List.range vs.length) ?_ (List.Perm.refl _) ?_)
    · apply List.ext_getElem (by simp)
      intro i h1 h2
      simp [List.getD_eq_getElem?_getD, h1]
    · rcases hshort with h0 | h0 <;> rw [h0] <;> simp [List.range_succ]
  · rw [if_neg h2, if_neg h2]
    have h2' : 2 ≤ vs.length := by omega
    refine wpAny_bind (hk h2' _ kp6 _ ?_)
    have hlen : (katRev b vs).length = vs.length := kat_len b vs
    have hpairs := kat_pairs (ks := vs) (vs := vs) b rfl
    have hpairs' : (if b = true then (vs.toArray.zip vs.toArray).reverse else vs.toArray.zip vs.toArray) = (List.toArray (katRev b vs)).zip (List.toArray (katRev b vs)) := hpairs
    rw [hpairs']
    have hso : SO (ltOn vs.length fun i j => L (if b = true then vs.length - 1 - i else i) (if b = true then vs.length - 1 - j else j)) := by
      cases b with
      | false => exact ltOn_so hL.1 hL.2.1 hL.2.2
      | true => exact ltOn_so (fun i hi => hL.1 _ (by simp; omega)) (fun i j k hi hj hk => hL.2.1 _ _ _ (by simp; omega) (by simp; omega) (by simp; omega)) (fun i j hi hj e => hL.2.2 _ _ (by simp; omega) (by simp; omega) (by simp; omega))
    have tree := sort_good hso h2'
    refine wpAny_bind (wpAny_mono (kat_run (ks := katRev b vs) (vs := katRev b vs) (A := A) (κ := κ) (Q := fun st' s' => ∃ p : Array Nat, p.size = vs.length ∧ arrOf st' = p.map (kas_item ((katRev b vs).toArray.zip (katRev b vs).toArray)) ∧ failedOf st' = none ∧
        (Pm vs.length p ∧ Srt (ltOn vs.length fun i j => L (if b = true then vs.length - 1 - i else i) (if b = true then vs.length - 1 - j else j)) p vs.length) ∧ s' = { s with heap := h6 })
      (G := fun p s' => (Pm vs.length p ∧ Srt (ltOn vs.length fun i j => L (if b = true then vs.length - 1 - i else i) (if b = true then vs.length - 1 - j else j)) p vs.length) ∧ s' = { s with heap := h6 })
      rfl (by rw [hlen]; exact h2') (by rw [hlen]; exact h64) (fun p' st' s' a1 a2 a3 a4 => ⟨p', by rw [a1, hlen], a2, a3, a4.1, a4.2⟩) ?_) ?_ fun _ _ e => e)
    · rw [hlen]
      refine Good.wpAt (lt := ltOn vs.length fun i j => L (if b = true then vs.length - 1 - i else i) (if b = true then vs.length - 1 - j else j)) (n := vs.length) (fun i j C hi hj hC => ?_) tree (fun q hq => ⟨hq, rfl⟩)
      unfold kas_ask
      rw [katRev_getD b vs hi, katRev_getD b vs hj]
      rw [ltOn_of hi hj] at hC
      exact hlt _ kp6 _ _ (by split <;> omega) (by split <;> omega) C hC
    · rintro ⟨⟨⟩, st'⟩ s' ⟨p, hp, har, hf, ⟨hPm, hSrt⟩, rfl⟩
      dsimp only
      have hout := kat_snds (ks := katRev b vs) (vs := katRev b vs) rfl har
      rw [hout, kat_outs]
      refine wpAny_bind (seqEpoch_at ho6 rfl ?_)
      refine wpAny_bind (listUpdate_at ho6 rfl ?_ (Nat.zero_le _) (by rw [List.size_toArray, kat_len, List.length_map, Array.length_toList, hp, sizeLine_eq]; omega))
      rw [hf]
      simp only [bne_self_eq_false, Bool.false_eq_true, if_false]
      obtain ⟨hperm, hpw⟩ := sorted_list hPm hSrt
      have hmem : ∀ i ∈ p.toList, i < vs.length := fun i hi => List.mem_range.mp (hperm.subset hi)
      cases b with
      | false =>
        refine wpAny_pure (fin _ p.toList ?_ hperm ?_)
        · rfl
        · refine hpw.imp_of_mem fun {i j} hi hj hij => ?_
          rw [ltOn_of (hmem i hi) (hmem j hj)] at hij
          simpa using hij
      | true =>
        refine wpAny_pure (fin _ (p.toList.map fun i => vs.length - 1 - i).reverse ?_ (perm_rev hperm) ?_)
        · unfold katRev
          simp only [if_true]
          rw [List.map_reverse, List.map_map]
          congr 1
          refine List.map_congr_left fun i hi => ?_
          have := katRev_getD true vs (hmem i hi)
          unfold katRev at this
          simpa using this
        · rw [List.pairwise_reverse, List.pairwise_map]
          refine hpw.imp_of_mem fun {i j} hi hj hij => ?_
          rw [ltOn_of (hmem i hi) (hmem j hj)] at hij
          simpa using hij

-- join
theorem sort_plain_rev (a : Addr) : Builtin.«list.sort» ⟨[.ref a], []⟩ = Builtin.«list.sort» ⟨[.ref a], [(Str.ofString "reverse", .bool false)]⟩ := by
  rw [list_sort_plain, list_sort_rev]
  rfl

theorem sorted_rev_S {l : Addr} {vs : List Value} {b : Bool} {κ : SortKind} {L : Nat → Nat → Bool} {Q : Value → Shared → Prop} (hl : s.heap.IsList l vs.toArray) (h64 : vs.length < 64)
    (hk : 2 ≤ vs.length → ∀ s' : Shared, (∀ x o, s.heap.get? x = some o → s'.heap.get? x = some o) → ∀ Q : SortKind → Shared → Prop, Q κ s' → wpAny (model prog w) A.in1.in1 (keyKind' vs.toArray) Q E s')
    (hL : LtSO vs.length L)
    (hlt : ∀ s' : Shared, (∀ x o, s.heap.get? x = some o → s'.heap.get? x = some o) → ∀ i j, i < vs.length → j < vs.length → ∀ Q : Bool → Shared → Prop, Q (L i j) s' →
      wpAny (model prog w) A.in1.in1 (keyLt' κ (vs.getD i Value.none) (vs.getD j Value.none)) Q (fun _ _ => False) s')
    (h : ∀ (p : List Nat) (D : Addr) (h' : Heap) (e : Nat), p.Perm (List.range vs.length) → p.Pairwise (fun i j => (if b = true then L j i else L i j) = true) → (∀ x o, s.heap.get? x = some o → h'.get? x = some o) →
      s.heap.objs.size ≤ D → h'.get? D = some (listOf (p.map fun i => vs.getD i Value.none).toArray e) → Q (.ref D) { s with heap := h' }) :
    wpAny (model prog w) A (call (.builtin "sorted") [.ref l] [(Str.ofString "reverse", .bool b)]) Q E s := by
  refine call_function_entry_kw kind_sorted plain_sorted entry_sorted (args_sorted_rev _ _) ?_
  unfold Builtin.«sorted»
  refine wpAny_bind (m := checkCount "sorted" 1 1 _) (wpAny_pure ?_)
  refine wpAny_bind (collect_list hl ?_ (by rw [sizeLine_eq]; omega))
  refine wpAny_bind (wpAny_newList ?_ (by rw [sizeLine_eq]; omega))
  have hsz : ((s.heap.push (seqObj "list" #[] 0)).update s.heap.objs.size (Obj.mapSeq (· ++ vs.toArray))).objs.size = s.heap.objs.size + 1 := by
    rw [Heap.size_update, size_push']
  have hoL : (((s.heap.push (seqObj "list" #[] 0)).update s.heap.objs.size (Obj.mapSeq (· ++ vs.toArray))).push (seqObj "list" vs.toArray 0)).get? (s.heap.objs.size + 1) = some (seqObj "list" vs.toArray 0) := by
    rw [← hsz]; exact Heap.get?_push_size _ rfl
  have keep : ∀ b o, s.heap.get? b = some o → (((s.heap.push (seqObj "list" #[] 0)).update s.heap.objs.size (Obj.mapSeq (· ++ vs.toArray))).push (seqObj "list" vs.toArray 0)).get? b = some o := fun b o q => by
    have hlt : b < s.heap.objs.size := Heap.lt_size q
    rw [Heap.get?_push_ne _ _ _ (by rw [hsz]; exact Nat.ne_of_lt (Nat.lt_succ_of_lt hlt)), Heap.get?_update_ne _ _ _ _ (Nat.ne_of_lt hlt), Heap.get?_push_ne _ _ _ (Nat.ne_of_lt hlt)]
    exact q
  have hne : ∀ x o, s.heap.get? x = some o → x ≠ s.heap.objs.size + 1 := fun x o e => Nat.ne_of_lt (Nat.lt_succ_of_lt (Heap.lt_size e))
  show wpAny _ _ _ _ _ { s with heap := ((s.heap.push (seqObj "list" #[] 0)).update s.heap.objs.size (Obj.mapSeq (· ++ vs.toArray))).push (seqObj "list" vs.toArray 0) }
  rw [hsz]
  generalize ((s.heap.push (seqObj "list" #[] 0)).update s.heap.objs.size (Obj.mapSeq (· ++ vs.toArray))).push (seqObj "list" vs.toArray 0) = h1 at hoL keep ⊢
  refine wpAny_bind (wpAny_holding (wpAny_call_entry_kw slot_list_sort ⟨_, hoL, rfl⟩ entry_list_sort ?body (args_list_sort_rev _ _)))
  case body =>
    refine srt_core (s := { s with heap := h1 }) hoL h64 (fun h2 s' k => hk h2 s' fun x o e => k x o (hne x o e) (keep x o e)) hL (fun s' k => hlt s' fun x o e => k x o (hne x o e) (keep x o e)) fun p h' e h1' h2 k hD => ⟨_, rfl, ?_⟩
    exact wpAny_pure ⟨_, rfl, h p _ h' e h1' h2 (fun x o e => k x o (hne x o e) (keep x o e)) (Nat.le_succ _) hD⟩

theorem sorted_S {l : Addr} {vs : List Value} {κ : SortKind} {L : Nat → Nat → Bool} {Q : Value → Shared → Prop} (hl : s.heap.IsList l vs.toArray) (h64 : vs.length < 64)
    (hk : 2 ≤ vs.length → ∀ s' : Shared, (∀ x o, s.heap.get? x = some o → s'.heap.get? x = some o) → ∀ Q : SortKind → Shared → Prop, Q κ s' → wpAny (model prog w) A.in1.in1 (keyKind' vs.toArray) Q E s')
    (hL : LtSO vs.length L)
    (hlt : ∀ s' : Shared, (∀ x o, s.heap.get? x = some o → s'.heap.get? x = some o) → ∀ i j, i < vs.length → j < vs.length → ∀ Q : Bool → Shared → Prop, Q (L i j) s' →
      wpAny (model prog w) A.in1.in1 (keyLt' κ (vs.getD i Value.none) (vs.getD j Value.none)) Q (fun _ _ => False) s')
    (h : ∀ (p : List Nat) (D : Addr) (h' : Heap) (e : Nat), p.Perm (List.range vs.length) → p.Pairwise (fun i j => L i j = true) → (∀ x o, s.heap.get? x = some o → h'.get? x = some o) →
      s.heap.objs.size ≤ D → h'.get? D = some (listOf (p.map fun i => vs.getD i Value.none).toArray e) → Q (.ref D) { s with heap := h' }) :
    wpAny (model prog w) A (call (.builtin "sorted") [.ref l]) Q E s := by
  refine Calls.call_function_entry kind_sorted plain_sorted entry_sorted (args_sorted1 _) ?_
  unfold Builtin.«sorted»
  refine wpAny_bind (m := checkCount "sorted" 1 1 _) (wpAny_pure ?_)
  refine wpAny_bind (collect_list hl ?_ (by rw [sizeLine_eq]; omega))
  refine wpAny_bind (wpAny_newList ?_ (by rw [sizeLine_eq]; omega))
  have hsz : ((s.heap.push (seqObj "list" #[] 0)).update s.heap.objs.size (Obj.mapSeq (· ++ vs.toArray))).objs.size = s.heap.objs.size + 1 := by
    rw [Heap.size_update, size_push']
  have hoL : (((s.heap.push (seqObj "list" #[] 0)).update s.heap.objs.size (Obj.mapSeq (· ++ vs.toArray))).push (seqObj "list" vs.toArray 0)).get? (s.heap.objs.size + 1) = some (seqObj "list" vs.toArray 0) := by
    rw [← hsz]; exact Heap.get?_push_size _ rfl
  have keep : ∀ b o, s.heap.get? b = some o → (((s.heap.push (seqObj "list" #[] 0)).update s.heap.objs.size (Obj.mapSeq (· ++ vs.toArray))).push (seqObj "list" vs.toArray 0)).get? b = some o := fun b o q => by
    have hlt : b < s.heap.objs.size := Heap.lt_size q
    rw [Heap.get?_push_ne _ _ _ (by rw [hsz]; exact Nat.ne_of_lt (Nat.lt_succ_of_lt hlt)), Heap.get?_update_ne _ _ _ _ (Nat.ne_of_lt hlt), Heap.get?_push_ne _ _ _ (Nat.ne_of_lt hlt)]
    exact q
  have hne : ∀ x o, s.heap.get? x = some o → x ≠ s.heap.objs.size + 1 := fun x o e => Nat.ne_of_lt (Nat.lt_succ_of_lt (Heap.lt_size e))
  show wpAny _ _ _ _ _ { s with heap := ((s.heap.push (seqObj "list" #[] 0)).update s.heap.objs.size (Obj.mapSeq (· ++ vs.toArray))).push (seqObj "list" vs.toArray 0) }
  rw [hsz]
  generalize ((s.heap.push (seqObj "list" #[] 0)).update s.heap.objs.size (Obj.mapSeq (· ++ vs.toArray))).push (seqObj "list" vs.toArray 0) = h1 at hoL keep ⊢
  refine wpAny_bind (wpAny_holding (wpAny_call_entry slot_list_sort ⟨_, hoL, rfl⟩ entry_list_sort ?body (args_list_sort _)))
  case body =>
    show wpAny (model prog w) A.in1.in1 (Builtin.«list.sort» ⟨[.ref (s.heap.objs.size + 1)], []⟩) _ _ _
    rw [sort_plain_rev]
    refine srt_core (s := { s with heap := h1 }) hoL h64 (fun h2 s' k => hk h2 s' fun x o e => k x o (hne x o e) (keep x o e)) hL (fun s' k => hlt s' fun x o e => k x o (hne x o e) (keep x o e)) fun p h' e h1' h2 k hD => ⟨_, rfl, ?_⟩
    exact wpAny_pure ⟨_, rfl, h p _ h' e h1' (by simpa using h2) (fun x o e => k x o (hne x o e) (keep x o e)) (Nat.le_succ _) hD⟩

theorem katTups_of {h : Heap} {P : Value → Prop} : ∀ vs : List Value, (∀ v ∈ vs, ∃ a o xs n f, v = .ref a ∧ h.get? a = some o ∧ o.cls = .type "tuple" ∧ o.data = .seq xs n ∧ xs[0]? = some f ∧ P f) →
    ∃ fs : List Value, fs.length = vs.length ∧ KatTups h vs fs ∧ ∀ f ∈ fs, P f
  | [], _ => ⟨[], rfl, KatTups.nil, fun _ h => nomatch h⟩
  | v :: vs, hv => by
    obtain ⟨fs, e1, e2, e3⟩ := katTups_of vs fun v hm => hv v (List.mem_cons_of_mem _ hm)
    obtain ⟨a, o, xs, n, f, rfl, h1, h2, h3, h4, h5⟩ := hv v (List.mem_cons_self ..)
    exact ⟨f :: fs, by simp [e1], KatTups.cons h1 h2 h3 h4 e2, fun f hf => by
      rcases List.mem_cons.mp hf with rfl | hf
      · exact h5
      · exact e3 f hf⟩

theorem kind_tups {vs : List Value} {T : String} {Q : SortKind → Shared → Prop} (h2 : 2 ≤ vs.length)
    (hv : ∀ v ∈ vs, ∃ a o xs n f, v = .ref a ∧ s.heap.get? a = some o ∧ o.cls = .type "tuple" ∧ o.data = .seq xs n ∧ xs[0]? = some f ∧ Looks (model prog w) s.heap (typeOf f) (.type T))
    (h : Q (tuples' (Value.type T != Value.type "tuple")) s) : wpAny (model prog w) A (keyKind' vs.toArray) Q E s := by
  obtain ⟨fs, e1, e2, e3⟩ := katTups_of vs hv
  exact kat_kind e2 (by omega) e3 (by simp) h

theorem key_items {r : Nat → Int} {a b : Addr} {i j : Nat} {Q : Bool → Shared → Prop} (ha : Item s.heap a (r i) i) (hb : Item s.heap b (r j) j) (h : Q (rlt r i j) s) :
    wpAny (model prog w) A (keyLt' (tuples' true) (.ref a) (.ref b)) Q E s := by
  obtain ⟨t, u, oa, ha1, ha2, na, ha3⟩ := ha
  obtain ⟨t', u', ob, hb1, hb2, nb, hb3⟩ := hb
  refine kat_lt ha1 ha3 hb1 hb3 ?_
  refine kat_cons (wpAny_eqBool_int ?_)
  cases e1 : (r i == r j) with
  | false =>
    refine kat_no (oneLt_int ?_)
    have hne : r i ≠ r j := by simpa using e1
    have : rlt r i j = decide (r i < r j) := by unfold rlt; simp [hne]
    rw [this] at h; exact h
  | true =>
    refine kat_yes (kat_cons (wpAny_eqBool_int ?_))
    have he : r i = r j := by simpa using e1
    cases e2 : ((i : Int) == (j : Int)) with
    | false =>
      refine kat_no (kat_one _ _ (lt_int ?_))
      have hne : (i : Int) ≠ j := by simpa using e2
      have : rlt r i j = decide ((i : Int) < (j : Int)) := by unfold rlt; simp [he]
      rw [this] at h; exact h
    | true =>
      refine kat_yes (kat_nil ?_)
      have hij : i = j := by
        have hij' : (i : Int) = j := eq_of_beq e2
        omega
      have : rlt r i j = false := by unfold rlt; simp [hij]
      rw [this] at h; exact h

def blt (r : Nat → Int) (p q : Nat × Nat) : Bool := if p.1 = q.1 then rlt r p.2 q.2 else rlt r p.1 q.1

theorem key_bars {r : Nat → Int} {adr : Nat → Addr} {a b : Addr} {p q : Nat × Nat} {Q : Bool → Shared → Prop} (hu : A.units < cLine) (ha : IsTup s.heap a #[.ref (adr p.1), .ref (adr p.2)]) (hb : IsTup s.heap b #[.ref (adr q.1), .ref (adr q.2)])
    (hp1 : Item s.heap (adr p.1) (r p.1) p.1) (hp2 : Item s.heap (adr p.2) (r p.2) p.2) (hq1 : Item s.heap (adr q.1) (r q.1) q.1) (hq2 : Item s.heap (adr q.2) (r q.2) q.2) (h : Q (blt r p q) s) :
    wpAny (model prog w) A (keyLt' (tuples' false) (.ref a) (.ref b)) Q E s := by
  obtain ⟨oa, ha1, ha2, na, ha3⟩ := ha
  obtain ⟨ob, hb1, hb2, nb, hb3⟩ := hb
  refine kat_lt ha1 ha3 hb1 hb3 ?_
  refine kat_cons (EqAt.items hp1 hq1 (fun e => by rw [e]) hu prog w _ _ ?_)
  by_cases e1 : p.1 = q.1
  · rw [decide_eq_true e1]
    refine kat_yes (kat_cons (EqAt.items hp2 hq2 (fun e => by rw [e]) hu prog w _ _ ?_))
    by_cases e2 : p.2 = q.2
    · rw [decide_eq_true e2]
      refine kat_yes (kat_nil ?_)
      have : blt r p q = false := by unfold blt rlt; simp [e1, e2]
      rw [this] at h; exact h
    · rw [decide_eq_false e2]
      refine kat_no (kat_one _ _ ?_)
      refine cmp_ofLt (LtAt.items hp2 hq2 hu prog w _ _ ?_)
      have : blt r p q = rlt r p.2 q.2 := by unfold blt; simp [e1]
      rw [this] at h; exact h
  · rw [decide_eq_false e1]
    refine kat_no (kat_one _ _ ?_)
    refine cmp_ofLt (LtAt.items hp1 hq1 hu prog w _ _ ?_)
    have : blt r p q = rlt r p.1 q.1 := by unfold blt; simp [e1]
    rw [this] at h; exact h
end
end Mine
end

section
open PySem PySem.W PyProof.Rows PySem.Calls PySem.SeqAt
set_option Elab.async false
set_option linter.unusedVariables false
set_option maxRecDepth 100000
set_option maxHeartbeats 4000000
namespace Mine
open PySem.SeqAt PySem.MeetsSeq PySem.MeetsSeq2 PySem.MeetsSeq3 PySem.SeqRoads2
/-- what a plain '>' answers, at this state -/
def GtAt (A : Around) (s : Shared) (y x : Value) (b : Bool) : Prop :=
  ∀ (prog : Program) (w : World) (E : Value → Shared → Prop) (Q : Value → Shared → Prop), Q (.bool b) s → wpAny (model prog w) A (richCompare .Gt y x) Q E s

theorem tuple_gt2 (l b : Addr) (xs ys : Array Value) (p1 p2 q1 q2 : Value) (hxy : xs.toList.zip ys.toList = [(p1, q1), (p2, q2)]) (hsz : xs.size = ys.size) (n n2 : Nat) (dd dd2 : Option Addr) (sl sl2 : Array (Option Value)) (e1 e2 v : Bool) :
    Meets (Builtin.«tuple.__gt__» ⟨[.ref l, .ref b], []⟩)
      (fun A R s => s.heap.get? l = some { cls := .type "tuple", dict := dd, data := .seq xs n, slots := sl } ∧ s.heap.get? b = some { cls := .type "tuple", dict := dd2, data := .seq ys n2, slots := sl2 } ∧
        EqAt A.in1 s p1 q1 e1 ∧ (e1 = false → GtAt A.in1 s p1 q1 v) ∧ (e1 = true → EqAt A.in1 s p2 q2 e2) ∧ (e1 = true → e2 = false → GtAt A.in1 s p2 q2 v) ∧ (e1 = true → e2 = true → v = false) ∧
        R (.ok (.ret (.bool v))) s) :=
  .of_wp fun prog w A R s h => by
    obtain ⟨hp, g, d, tk, os⟩ := s; obtain ⟨hl, hb, h1, h2, h3, h4, h5, h⟩ := h
    have f2 := AutoSeq1.sub_tuple_tuple
    wp_walk using AutoSeq1.wpAny_loadPart' hl, AutoSeq1.wpAny_loadPart' hb, wpAny_forIn_list _ (fun rest b s' => b.1 = none ∧ s' = ⟨hp, g, d, tk, os⟩ ∧ (rest = [(p1, q1), (p2, q2)] ∨ (rest = [(p2, q2)] ∧ e1 = true) ∨ (rest = [] ∧ e1 = true ∧ e2 = true))) _
    case turn =>
      rintro ⟨y, x⟩ rest b s' ⟨hb', rfl, hz⟩
      rcases hz with hz | ⟨hz, he⟩ | ⟨hz, _⟩
      · injection hz with hyx hrest
        injection hyx with hy hx
        subst hy hx hrest
        refine wpAny_bind (h1 prog w _ _ ?_)
        cases e1 with
        | true =>
          wp_walk
          exact ⟨rfl, rfl, .inr (.inl ⟨rfl, rfl⟩)⟩
        | false =>
          have h2' := h2 rfl prog w
          wp_walk using h2'
          exact ⟨_, rfl, h⟩
      · injection hz with hyx hrest
        injection hyx with hy hx
        subst hy hx hrest
        refine wpAny_bind (h3 he prog w _ _ ?_)
        cases e2 with
        | true =>
          wp_walk
          exact ⟨rfl, rfl, .inr (.inr ⟨rfl, he, rfl⟩)⟩
        | false =>
          have h4' := h4 he rfl prog w
          wp_walk using h4'
          exact ⟨_, rfl, h⟩
      · cases hz
    case fin =>
      rintro ⟨b1, b2⟩ s' ⟨hb', rfl, hz⟩
      simp only at hb'
      subst hb'
      rcases hz with hz | ⟨hz, _⟩ | ⟨_, a1, a2⟩
      · cases hz
      · cases hz
      have hv := h5 a1 a2
      subst hv
      wp_walk
      exact ⟨_, rfl, by simpa [Builtin.Tuple.tupleCompareSizes, hsz] using h⟩
    case h =>
      exact ⟨rfl, rfl, .inl hxy⟩

theorem GtAt.tuples {A : Around} {s : Shared} {l b : Addr} {p1 p2 q1 q2 : Value} {e1 e2 v : Bool} (hl : IsTup s.heap l #[p1, p2]) (hb : IsTup s.heap b #[q1, q2]) (hu : A.units < cLine)
    (h1 : EqAt A.in1 s p1 q1 e1) (h2 : e1 = false → GtAt A.in1 s p1 q1 v) (h3 : e1 = true → EqAt A.in1 s p2 q2 e2) (h4 : e1 = true → e2 = false → GtAt A.in1 s p2 q2 v) (h5 : e1 = true → e2 = true → v = false) :
    GtAt A s (.ref l) (.ref b) v := fun prog w E Q h => by
  obtain ⟨⟨cls, dd, data, sl⟩, ho, hc, n, hd⟩ := id hl
  obtain ⟨⟨cls2, dd2, data2, sl2⟩, ho2, hc2, n2, hd2⟩ := id hb
  simp only at hc hd hc2 hd2
  subst hc hd hc2 hd2
  exact richCompare_meets_room (op := .Gt) ⟨_, ho, rfl⟩ ⟨_, ho2, rfl⟩ F.slot_tuple_gt F.entry_tuple_gt (F.args_tuple_gt_2 _ _) (tuple_gt2 l b #[p1, p2] #[q1, q2] p1 p2 q1 q2 rfl rfl n n2 dd dd2 sl sl2 e1 e2 v)
    ⟨ho, ho2, h1, h2, h3, h4, h5, show Value.bool v ≠ Value.notImplemented ∧ Q (.bool v) s from ⟨(fun x => nomatch x), h⟩⟩ hu


theorem GtAt.int {A : Around} {s : Shared} (a b : Int) (t u : Tok) : GtAt A s (.int a t) (.int b u) (decide (a > b)) := fun prog w E Q h => gt_int h
theorem GtAt.items {A : Around} {s : Shared} {r : Nat → Int} {a b : Addr} {i j : Nat} (ha : Item s.heap a (r i) i) (hb : Item s.heap b (r j) j) (hu : A.units < cLine) : GtAt A s (.ref a) (.ref b) (rlt r j i) := by
  obtain ⟨t, u, ha⟩ := ha
  obtain ⟨t', u', hb⟩ := hb
  refine GtAt.tuples ha hb hu (EqAt_int _ _ _ _) (e2 := ((i : Int) == (j : Int))) (fun he => ?_) (fun _ => EqAt_int _ _ _ _) (fun he he2 => ?_) fun he he2 => ?_
  · have : rlt r j i = decide (r i > r j) := by
      unfold rlt
      have hne : r i ≠ r j := by simpa using he
      have : ¬ (r j = r i) := fun e => hne e.symm
      simp [this]
    rw [this]; exact GtAt.int _ _ _ _
  · have : rlt r j i = decide ((i : Int) > (j : Int)) := by
      unfold rlt
      have hne : r i = r j := by simpa using he
      simp [hne]
    rw [this]; exact GtAt.int _ _ _ _
  · unfold rlt
    have h1 : r i = r j := by simpa using he
    have h2 : (i : Int) = j := by simpa using he2
    simp [h1]; omega
section
variable {prog : Program} {w : World} {A : Around} {E : Value → Shared → Prop} {s : Shared}

theorem min_pick {a b : Addr} {c : Bool} {Q : Value → Shared → Prop} (hh : A.handled = none)
    (hc : ∀ s' : Shared, (∀ x o, s.heap.get? x = some o → s'.heap.get? x = some o) → ∀ (E' : Value → Shared → Prop) (Q' : Value → Shared → Prop), Q' (.bool c) s' → wpAny (model prog w) A.in1 (richCompare .Lt (.ref b) (.ref a)) Q' E' s')
    (h : ∀ h' tk, (∀ x o, s.heap.get? x = some o → h'.get? x = some o) → Q (.ref (if c = true then b else a)) { s with heap := h', toks := tk }) :
    wpAny (model prog w) A (call (.builtin "min") [.ref a, .ref b]) Q E s := by
  have hname : (toString "min" ++ toString ".loop" : String) = "min.loop" := by decide
  refine call_function_tree F.kind_min F.plain_min F.entry_min (F.args_min2 _ _) ?_
  show wpAny _ A.in1 (Builtin.Builtins.bindParams "min" ["key", "default"] 0 ⟨[], []⟩ >>= _) _ _ s
  refine wpAny_bind (wpAny_of_eq (show Builtin.Builtins.bindParams "min" ["key", "default"] 0 ⟨[], []⟩ = pure [none, none] from rfl) ?_)
  show wpAny _ A.in1 (newTuple [Value.ref a, Value.ref b] >>= _) _ _ s
  refine wpAny_bind (wpAny_newObj_type ?_)
  have hT : (s.heap.push { cls := .type "tuple", data := .seq #[Value.ref a, Value.ref b] }).IsTuple s.heap.objs.size #[Value.ref a, Value.ref b] := ⟨_, Heap.get?_push_size _ rfl, rfl, 0, rfl⟩
  refine wpAny_bind (wpAny_pyIter_tuple hT ?_)
  refine wpAny_bind (wpAny_newObj_type ?_)
  rw [hname]
  have hsz : (s.heap.push { cls := .type "tuple", data := .seq #[Value.ref a, Value.ref b] }).objs.size = s.heap.objs.size + 1 := Heap.size_push ..
  have W := Walks.tuple (prog := prog) (w := w) (A := A.in1) hh (s.heap.push { cls := .type "tuple", data := .seq #[Value.ref a, Value.ref b] }).objs.size s.heap.objs.size (by rw [hsz]; exact Nat.ne_of_lt (Nat.lt_succ_self _)) #[Value.ref a, Value.ref b]
  have hst : ∀ o, (((s.heap.push { cls := .type "tuple", data := .seq #[Value.ref a, Value.ref b] }).push { cls := .type "tuple_iterator", data := .fields #[.ref s.heap.objs.size, .int 0 0] }).push o).IsTupleIter (s.heap.push { cls := .type "tuple", data := .seq #[Value.ref a, Value.ref b] }).objs.size s.heap.objs.size 0 ∧
     (((s.heap.push { cls := .type "tuple", data := .seq #[Value.ref a, Value.ref b] }).push { cls := .type "tuple_iterator", data := .fields #[.ref s.heap.objs.size, .int 0 0] }).push o).IsTuple s.heap.objs.size #[Value.ref a, Value.ref b] := fun o =>
    ⟨⟨_, Heap.get?_push_of_some _ (Heap.get?_push_size _ rfl), rfl, rfl⟩, (hT.push _).push _⟩
  have up : ∀ x o, s.heap.get? x = some o → (((s.heap.push { cls := .type "tuple", data := .seq #[Value.ref a, Value.ref b] }).push { cls := .type "tuple_iterator", data := .fields #[.ref s.heap.objs.size, .int 0 0] }).push { cls := .type "list", data := .seq #[] }).get? x = some o :=
    fun x o e => Heap.get?_push_of_some _ (Heap.get?_push_of_some _ (Heap.get?_push_of_some _ e))
  have hS := Heap.get?_push_size (((s.heap.push { cls := .type "tuple", data := .seq #[Value.ref a, Value.ref b] }).push { cls := .type "tuple_iterator", data := .fields #[.ref s.heap.objs.size, .int 0 0] })) (o := ({ cls := .type "list", data := .seq #[] } : Obj)) rfl
  have hSz : ((s.heap.push { cls := .type "tuple", data := .seq #[Value.ref a, Value.ref b] }).push { cls := .type "tuple_iterator", data := .fields #[.ref s.heap.objs.size, .int 0 0] }).objs.size = s.heap.objs.size + 2 := by rw [Heap.size_push, hsz]
  have hIz : (s.heap.push { cls := .type "tuple", data := .seq #[Value.ref a, Value.ref b] }).objs.size = s.heap.objs.size + 1 := hsz
  have hst0 := hst { cls := .type "list", data := .seq #[] }
  refine wpAny_pure ⟨plainId_quiet F.plain_min_loop _, ?_⟩
  dsimp only
  generalize ((s.heap.push { cls := .type "tuple", data := .seq #[Value.ref a, Value.ref b] }).push { cls := .type "tuple_iterator", data := .fields #[.ref s.heap.objs.size, .int 0 0] }).objs.size = S at hS hSz ⊢
  generalize (s.heap.push { cls := .type "tuple", data := .seq #[Value.ref a, Value.ref b] }).objs.size = I at W hst0 hIz hS up ⊢
  generalize ((s.heap.push { cls := .type "tuple", data := .seq #[Value.ref a, Value.ref b] }).push { cls := .type "tuple_iterator", data := .fields #[.ref s.heap.objs.size, .int 0 0] }).push ({ cls := .type "list", data := .seq #[] } : Obj) = h1 at hst0 up hS ⊢
  have nI : ∀ x o, s.heap.get? x = some o → x ≠ I ∧ x ≠ S := fun x o e => by
    have := Heap.lt_size e
    have l : ∀ {p q : Nat}, p < q → p ≠ q := fun h => Nat.ne_of_lt h
    refine ⟨l (Nat.lt_of_lt_of_eq (Nat.lt_succ_of_lt this) hIz.symm), l (Nat.lt_of_lt_of_eq (Nat.lt_succ_of_lt (Nat.lt_succ_of_lt this)) hSz.symm)⟩
  have hSI : S ≠ I := by rw [hSz, hIz]; exact Nat.ne_of_gt (Nat.lt_succ_self _)
  have hST : S ≠ s.heap.objs.size := by rw [hSz]; exact Nat.ne_of_gt (Nat.lt_succ_of_lt (Nat.lt_succ_self _))
  have hSw : S ∉ [I] := fun m => hSI (List.mem_singleton.mp m)
  have fr : ∀ (i : Nat) (hp : Heap) (g : Obj → Obj), (hp.IsTupleIter I s.heap.objs.size i ∧ hp.IsTuple s.heap.objs.size #[Value.ref a, Value.ref b]) → ((hp.update S g).IsTupleIter I s.heap.objs.size i ∧ (hp.update S g).IsTuple s.heap.objs.size #[Value.ref a, Value.ref b]) := fun i hp g st =>
    W.frame i _ _ st fun x hx o e => (Heap.get?_update_other _ _ (fun q : S = x => by
      rcases List.mem_cons.mp hx with hx | hx
      · exact hSI (q.trans hx)
      · exact hST (q.trans (List.mem_singleton.mp hx)))).trans e
  -- the first item
  refine codeAny_builtin F.entry_min_loop ?_
  rw [Around.under_plainId F.plain_min_loop _]
  show wpAny _ A.in1 (seqItems? (.ref S) >>= _) _ _ _
  refine wpAny_bind (wpAny_seqItems hS rfl ?_)
  show wpAny _ A.in1 (tryCatch (pyNext (.ref I)) _ >>= _) _ _ _
  refine wpAny_bind (wpAny_tryCatch (W.item 0 _ _ _ (by simp) hst0 fun v h2 tk hP hst2 hk2 => ?_))
  have hv : v = .ref a := by simpa using hP.symm
  subst hv
  have hS2 := hk2 S _ hSw hS
  show wpAny _ A.in1 (updateSeq S (fun _ => #[Value.ref a, Value.ref a]) >>= _) _ _ _
  refine wpAny_bind ?_
  refine wpAny_updateSeq hS2 rfl ?_
  rw [hname]
  refine wpAny_pure ⟨plainId_quiet F.plain_min_loop _, ?_⟩
  -- the second
  refine codeAny_builtin F.entry_min_loop ?_
  rw [Around.under_plainId F.plain_min_loop _]
  show wpAny _ A.in1 (seqItems? (.ref S) >>= _) _ _ _
  refine wpAny_bind (wpAny_seqItems (Heap.get?_update_self _ hS2 rfl) rfl ?_)
  show wpAny _ A.in1 (tryCatch (pyNext (.ref I)) _ >>= _) _ _ _
  refine wpAny_bind (wpAny_tryCatch (W.item 1 _ _ _ (by simp) (fr _ _ _ hst2) fun v h3 tk3 hP3 hst3 hk3 => ?_))
  have hv : v = .ref b := by simpa using hP3.symm
  subst hv
  have hS3 := hk3 S _ hSw (Heap.get?_update_self _ hS2 rfl)
  have up3 : ∀ x o, s.heap.get? x = some o → h3.get? x = some o := fun x o e => by
    have n := nI x o e
    have m : x ∉ [I] := fun q => n.1 (List.mem_singleton.mp q)
    exact hk3 x o m ((Heap.get?_update_other _ _ (Ne.symm n.2)).trans (hk2 x o m (up x o e)))
  show wpAny _ A.in1 (tryCatch (holding [Value.ref b, Value.ref b] (richCompare .Lt (.ref b) (.ref a) >>= _)) _ >>= _) _ _ _
  refine wpAny_bind (wpAny_tryCatch (wpAny_holding (wpAny_bind (hc _ up3 _ _ ?_))))
  refine wpAny_bind (wpAny_holding (wpAny_truthy_bool ?_))
  refine wpAny_bind (wpAny_letGo (wpAny_pure ?_))
  have last : ∀ (h4 : Heap) (tk4 : Nat) (v : Value) (c4 : Nat), h4.get? S = some { cls := .type "list", dict := none, data := .seq #[v, v] c4, slots := #[] } → (h4.IsTupleIter I s.heap.objs.size 2 ∧ h4.IsTuple s.heap.objs.size #[Value.ref a, Value.ref b]) →
      (∀ x o, s.heap.get? x = some o → h4.get? x = some o) → (∀ h' tk, (∀ x o, s.heap.get? x = some o → h'.get? x = some o) → Q v { s with heap := h', toks := tk }) →
      codeAny (model prog w) A (.builtin "min.loop" ⟨[.ref I, .none, .ref S], []⟩) (fun r s' => match r with | .ok (.ret v) => Q v s' | .ok _ => False | .error e => E e s') { s with heap := h4, toks := tk4 } := by
    intro h4 tk4 v c4 hS4 hst4 up4 hq
    refine codeAny_builtin F.entry_min_loop ?_
    rw [Around.under_plainId F.plain_min_loop _]
    show wpAny _ A.in1 (seqItems? (.ref S) >>= _) _ _ _
    refine wpAny_bind (wpAny_seqItems hS4 rfl ?_)
    show wpAny _ A.in1 (tryCatch (pyNext (.ref I)) _ >>= _) _ _ _
    refine wpAny_bind (wpAny_tryCatch (W.done _ _ _ hst4 fun h5 tk5 hk5 => ?_))
    have hS5 := hk5 S _ hSw hS4
    show wpAny _ A.in1 (updateSeq S (fun _ => #[]) >>= _) _ _ _
    refine wpAny_bind ?_
    refine wpAny_updateSeq hS5 rfl (wpAny_bind (wpAny_letGo (wpAny_pure ?_)))
    refine hq _ tk5 fun x o e => ?_
    have n := nI x o e
    exact (Heap.get?_update_other _ _ (Ne.symm n.2)).trans (hk5 x o (fun q => n.1 (List.mem_singleton.mp q)) (up4 x o e))
  cases c with
  | true =>
    simp only [if_true]
    refine wpAny_bind ?_
    refine wpAny_updateSeq hS3 rfl (wpAny_bind (wpAny_letGo ?_))
    rw [hname]
    refine wpAny_pure ⟨plainId_quiet F.plain_min_loop _, ?_⟩
    exact last _ _ (.ref b) _ (Heap.get?_update_self _ hS3 rfl) (fr _ _ _ hst3) (fun x o e => (Heap.get?_update_other _ _ (Ne.symm (nI x o e).2)).trans (up3 x o e)) h
  | false =>
    simp only [Bool.false_eq_true, if_false]
    refine wpAny_bind (wpAny_letGo ?_)
    rw [hname]
    refine wpAny_pure ⟨plainId_quiet F.plain_min_loop _, ?_⟩
    exact last _ _ (.ref a) _ hS3 hst3 up3 h

theorem max_pick {a b : Addr} {c : Bool} {Q : Value → Shared → Prop} (hh : A.handled = none)
    (hc : ∀ s' : Shared, (∀ x o, s.heap.get? x = some o → s'.heap.get? x = some o) → ∀ (E' : Value → Shared → Prop) (Q' : Value → Shared → Prop), Q' (.bool c) s' → wpAny (model prog w) A.in1 (richCompare .Gt (.ref b) (.ref a)) Q' E' s')
    (h : ∀ h' tk, (∀ x o, s.heap.get? x = some o → h'.get? x = some o) → Q (.ref (if c = true then b else a)) { s with heap := h', toks := tk }) :
    wpAny (model prog w) A (call (.builtin "max") [.ref a, .ref b]) Q E s := by
  have hname : (toString "max" ++ toString ".loop" : String) = "max.loop" := by decide
  refine call_function_tree F.kind_max F.plain_max F.entry_max (F.args_max2 _ _) ?_
  show wpAny _ A.in1 (Builtin.Builtins.bindParams "max" ["key", "default"] 0 ⟨[], []⟩ >>= _) _ _ s
  refine wpAny_bind (wpAny_of_eq (show Builtin.Builtins.bindParams "max" ["key", "default"] 0 ⟨[], []⟩ = pure [none, none] from rfl) ?_)
  show wpAny _ A.in1 (newTuple [Value.ref a, Value.ref b] >>= _) _ _ s
  refine wpAny_bind (wpAny_newObj_type ?_)
  have hT : (s.heap.push { cls := .type "tuple", data := .seq #[Value.ref a, Value.ref b] }).IsTuple s.heap.objs.size #[Value.ref a, Value.ref b] := ⟨_, Heap.get?_push_size _ rfl, rfl, 0, rfl⟩
  refine wpAny_bind (wpAny_pyIter_tuple hT ?_)
  refine wpAny_bind (wpAny_newObj_type ?_)
  rw [hname]
  have hsz : (s.heap.push { cls := .type "tuple", data := .seq #[Value.ref a, Value.ref b] }).objs.size = s.heap.objs.size + 1 := Heap.size_push ..
  have W := Walks.tuple (prog := prog) (w := w) (A := A.in1) hh (s.heap.push { cls := .type "tuple", data := .seq #[Value.ref a, Value.ref b] }).objs.size s.heap.objs.size (by rw [hsz]; exact Nat.ne_of_lt (Nat.lt_succ_self _)) #[Value.ref a, Value.ref b]
  have hst : ∀ o, (((s.heap.push { cls := .type "tuple", data := .seq #[Value.ref a, Value.ref b] }).push { cls := .type "tuple_iterator", data := .fields #[.ref s.heap.objs.size, .int 0 0] }).push o).IsTupleIter (s.heap.push { cls := .type "tuple", data := .seq #[Value.ref a, Value.ref b] }).objs.size s.heap.objs.size 0 ∧
     (((s.heap.push { cls := .type "tuple", data := .seq #[Value.ref a, Value.ref b] }).push { cls := .type "tuple_iterator", data := .fields #[.ref s.heap.objs.size, .int 0 0] }).push o).IsTuple s.heap.objs.size #[Value.ref a, Value.ref b] := fun o =>
    ⟨⟨_, Heap.get?_push_of_some _ (Heap.get?_push_size _ rfl), rfl, rfl⟩, (hT.push _).push _⟩
  have up : ∀ x o, s.heap.get? x = some o → (((s.heap.push { cls := .type "tuple", data := .seq #[Value.ref a, Value.ref b] }).push { cls := .type "tuple_iterator", data := .fields #[.ref s.heap.objs.size, .int 0 0] }).push { cls := .type "list", data := .seq #[] }).get? x = some o :=
    fun x o e => Heap.get?_push_of_some _ (Heap.get?_push_of_some _ (Heap.get?_push_of_some _ e))
  have hS := Heap.get?_push_size (((s.heap.push { cls := .type "tuple", data := .seq #[Value.ref a, Value.ref b] }).push { cls := .type "tuple_iterator", data := .fields #[.ref s.heap.objs.size, .int 0 0] })) (o := ({ cls := .type "list", data := .seq #[] } : Obj)) rfl
  have hSz : ((s.heap.push { cls := .type "tuple", data := .seq #[Value.ref a, Value.ref b] }).push { cls := .type "tuple_iterator", data := .fields #[.ref s.heap.objs.size, .int 0 0] }).objs.size = s.heap.objs.size + 2 := by rw [Heap.size_push, hsz]
  have hIz : (s.heap.push { cls := .type "tuple", data := .seq #[Value.ref a, Value.ref b] }).objs.size = s.heap.objs.size + 1 := hsz
  have hst0 := hst { cls := .type "list", data := .seq #[] }
  refine wpAny_pure ⟨plainId_quiet F.plain_max_loop _, ?_⟩
  dsimp only
  generalize ((s.heap.push { cls := .type "tuple", data := .seq #[Value.ref a, Value.ref b] }).push { cls := .type "tuple_iterator", data := .fields #[.ref s.heap.objs.size, .int 0 0] }).objs.size = S at hS hSz ⊢
  generalize (s.heap.push { cls := .type "tuple", data := .seq #[Value.ref a, Value.ref b] }).objs.size = I at W hst0 hIz hS up ⊢
  generalize ((s.heap.push { cls := .type "tuple", data := .seq #[Value.ref a, Value.ref b] }).push { cls := .type "tuple_iterator", data := .fields #[.ref s.heap.objs.size, .int 0 0] }).push ({ cls := .type "list", data := .seq #[] } : Obj) = h1 at hst0 up hS ⊢
  have nI : ∀ x o, s.heap.get? x = some o → x ≠ I ∧ x ≠ S := fun x o e => by
    have := Heap.lt_size e
    have l : ∀ {p q : Nat}, p < q → p ≠ q := fun h => Nat.ne_of_lt h
    refine ⟨l (Nat.lt_of_lt_of_eq (Nat.lt_succ_of_lt this) hIz.symm), l (Nat.lt_of_lt_of_eq (Nat.lt_succ_of_lt (Nat.lt_succ_of_lt this)) hSz.symm)⟩
  have hSI : S ≠ I := by rw [hSz, hIz]; exact Nat.ne_of_gt (Nat.lt_succ_self _)
  have hST : S ≠ s.heap.objs.size := by rw [hSz]; exact Nat.ne_of_gt (Nat.lt_succ_of_lt (Nat.lt_succ_self _))
  have hSw : S ∉ [I] := fun m => hSI (List.mem_singleton.mp m)
  have fr : ∀ (i : Nat) (hp : Heap) (g : Obj → Obj), (hp.IsTupleIter I s.heap.objs.size i ∧ hp.IsTuple s.heap.objs.size #[Value.ref a, Value.ref b]) → ((hp.update S g).IsTupleIter I s.heap.objs.size i ∧ (hp.update S g).IsTuple s.heap.objs.size #[Value.ref a, Value.ref b]) := fun i hp g st =>
    W.frame i _ _ st fun x hx o e => (Heap.get?_update_other _ _ (fun q : S = x => by
      rcases List.mem_cons.mp hx with hx | hx
      · exact hSI (q.trans hx)
      · exact hST (q.trans (List.mem_singleton.mp hx)))).trans e
  -- the first item
  refine codeAny_builtin F.entry_max_loop ?_
  rw [Around.under_plainId F.plain_max_loop _]
  show wpAny _ A.in1 (seqItems? (.ref S) >>= _) _ _ _
  refine wpAny_bind (wpAny_seqItems hS rfl ?_)
  show wpAny _ A.in1 (tryCatch (pyNext (.ref I)) _ >>= _) _ _ _
  refine wpAny_bind (wpAny_tryCatch (W.item 0 _ _ _ (by simp) hst0 fun v h2 tk hP hst2 hk2 => ?_))
  have hv : v = .ref a := by simpa using hP.symm
  subst hv
  have hS2 := hk2 S _ hSw hS
  show wpAny _ A.in1 (updateSeq S (fun _ => #[Value.ref a, Value.ref a]) >>= _) _ _ _
  refine wpAny_bind ?_
  refine wpAny_updateSeq hS2 rfl ?_
  rw [hname]
  refine wpAny_pure ⟨plainId_quiet F.plain_max_loop _, ?_⟩
  -- the second
  refine codeAny_builtin F.entry_max_loop ?_
  rw [Around.under_plainId F.plain_max_loop _]
  show wpAny _ A.in1 (seqItems? (.ref S) >>= _) _ _ _
  refine wpAny_bind (wpAny_seqItems (Heap.get?_update_self _ hS2 rfl) rfl ?_)
  show wpAny _ A.in1 (tryCatch (pyNext (.ref I)) _ >>= _) _ _ _
  refine wpAny_bind (wpAny_tryCatch (W.item 1 _ _ _ (by simp) (fr _ _ _ hst2) fun v h3 tk3 hP3 hst3 hk3 => ?_))
  have hv : v = .ref b := by simpa using hP3.symm
  subst hv
  have hS3 := hk3 S _ hSw (Heap.get?_update_self _ hS2 rfl)
  have up3 : ∀ x o, s.heap.get? x = some o → h3.get? x = some o := fun x o e => by
    have n := nI x o e
    have m : x ∉ [I] := fun q => n.1 (List.mem_singleton.mp q)
    exact hk3 x o m ((Heap.get?_update_other _ _ (Ne.symm n.2)).trans (hk2 x o m (up x o e)))
  show wpAny _ A.in1 (tryCatch (holding [Value.ref b, Value.ref b] (richCompare .Gt (.ref b) (.ref a) >>= _)) _ >>= _) _ _ _
  refine wpAny_bind (wpAny_tryCatch (wpAny_holding (wpAny_bind (hc _ up3 _ _ ?_))))
  refine wpAny_bind (wpAny_holding (wpAny_truthy_bool ?_))
  refine wpAny_bind (wpAny_letGo (wpAny_pure ?_))
  have last : ∀ (h4 : Heap) (tk4 : Nat) (v : Value) (c4 : Nat), h4.get? S = some { cls := .type "list", dict := none, data := .seq #[v, v] c4, slots := #[] } → (h4.IsTupleIter I s.heap.objs.size 2 ∧ h4.IsTuple s.heap.objs.size #[Value.ref a, Value.ref b]) →
      (∀ x o, s.heap.get? x = some o → h4.get? x = some o) → (∀ h' tk, (∀ x o, s.heap.get? x = some o → h'.get? x = some o) → Q v { s with heap := h', toks := tk }) →
      codeAny (model prog w) A (.builtin "max.loop" ⟨[.ref I, .none, .ref S], []⟩) (fun r s' => match r with | .ok (.ret v) => Q v s' | .ok _ => False | .error e => E e s') { s with heap := h4, toks := tk4 } := by
    intro h4 tk4 v c4 hS4 hst4 up4 hq
    refine codeAny_builtin F.entry_max_loop ?_
    rw [Around.under_plainId F.plain_max_loop _]
    show wpAny _ A.in1 (seqItems? (.ref S) >>= _) _ _ _
    refine wpAny_bind (wpAny_seqItems hS4 rfl ?_)
    show wpAny _ A.in1 (tryCatch (pyNext (.ref I)) _ >>= _) _ _ _
    refine wpAny_bind (wpAny_tryCatch (W.done _ _ _ hst4 fun h5 tk5 hk5 => ?_))
    have hS5 := hk5 S _ hSw hS4
    show wpAny _ A.in1 (updateSeq S (fun _ => #[]) >>= _) _ _ _
    refine wpAny_bind ?_
    refine wpAny_updateSeq hS5 rfl (wpAny_bind (wpAny_letGo (wpAny_pure ?_)))
    refine hq _ tk5 fun x o e => ?_
    have n := nI x o e
    exact (Heap.get?_update_other _ _ (Ne.symm n.2)).trans (hk5 x o (fun q => n.1 (List.mem_singleton.mp q)) (up4 x o e))
  cases c with
  | true =>
    simp only [if_true]
    refine wpAny_bind ?_
    refine wpAny_updateSeq hS3 rfl (wpAny_bind (wpAny_letGo ?_))
    rw [hname]
    refine wpAny_pure ⟨plainId_quiet F.plain_max_loop _, ?_⟩
    exact last _ _ (.ref b) _ (Heap.get?_update_self _ hS3 rfl) (fr _ _ _ hst3) (fun x o e => (Heap.get?_update_other _ _ (Ne.symm (nI x o e).2)).trans (up3 x o e)) h
  | false =>
    simp only [Bool.false_eq_true, if_false]
    refine wpAny_bind (wpAny_letGo ?_)
    rw [hname]
    refine wpAny_pure ⟨plainId_quiet F.plain_max_loop _, ?_⟩
    exact last _ _ (.ref a) _ hS3 hst3 up3 h
end
end Mine
end

section
open PySem PySem.W PyProof.Rows PySem.Calls PySem.SeqAt
set_option Elab.async false
set_option linter.unusedVariables false
set_option maxRecDepth 100000
set_option maxHeartbeats 8000000
namespace Mine

theorem enterC {w : World} {A : Around} {s : Shared} {G : Heap} {W : List Addr} {R : Result → Shared → Prop} {mean : ExcName → Option Value} {mg mb : Str → Option Value}
    {name qual : Str} {params : Arguments} {body : List Stmt} {scope : Scope} {dV kV doc pm cdv ct oc : Value} {an od : Option Addr} {osl : Array (Option Value)} {f : Addr} {args : Args} (binds : List (Str × Value))
    (S : Sta w G mean mg mb) (st : G.StaysIn s.heap) (hW : ∀ a ∈ W, G.get? a = none)
    (ho : (hd.heap_39 w.params).lookup f = some ⟨oc, od, .func (fnOf name qual params body scope dV kV doc pm an cdv ct), osl⟩) (hcd : codeIn (hd.heap_39 w.params) cdv qual = true) (hroom : A.depth < recursionLimit)
    (hbind : BindsTo s (fnOf name qual params body scope dV kV doc pm an cdv ct) args binds) (hkind : (binds.all fun y => scope.names.lookup y.1 == some .local || scope.names.lookup y.1 == some .cell) = true)
    (hnd : ((cellsFrom 0 scope.names []).map (·.1)).Nodup)
    (h : ∀ g L h₁ tk cells, Kp W s.heap g → (∀ a ∈ W, g.get? a = none) → (∀ b o, s.heap.get? b = some o → h₁.get? b = some o ∧ @LT.lt Nat _ b L) → Fr g L h₁ (bindL (envOfC qual scope L f cdv).kindOf binds fun _ => none) → News g L h₁ cells →
      CellsAre (bindC (envOfC qual scope L f cdv).kindOf binds fun _ => none) (cellsFrom (L + 1) scope.names []) cells → G.StaysIn g → (hd.heap_39 w.params).In g → Top hd.view_39 (looseW hd.view_39 []) mean mg mb g →
      wpAny (model PG w) (A.deeper (envOfC qual scope L f cdv)) (execs body (envOfC qual scope L f cdv))
        (fun fl s' => R (.ok (.ret (match fl with | .ret v => v | _ => .none))) s') (fun _ _ => False) { s with heap := h₁, toks := tk })
    (hco : scope.isCoroutine = false) (hgen : scope.isGenerator = false) (hk : scope.kind = .function) : codeAny (model PG w) A (.call (.ref f) args) R s := by
  have stg : G.StaysIn (hideAll s.heap W) := fun b o e => hideAll_get _ (st b o e) fun q => by rw [hW b q] at e; cases e
  refine codeAny_call_function (fd := fnX name qual params body scope [] dV kV doc pm an cdv ct) hroom ((S.X.keeps st) _ _ ho) rfl hco hgen rfl (codeRec_of (S.X.keeps st) hcd) (hbind _ _ _ _ ?_)
  refine wpAny_newFunctionEnv_cells hk (kindsX hkind _) fun env' he s' x => ?_
  subst he
  refine ⟨(S.T.nolimit.keeps st).keeps x.toInCall.keep, codeAny_func ?_⟩
  obtain ⟨h₁, tk, rfl, _⟩ := x.done
  have hk₁ := x.toInCall.keep
  obtain ⟨cells, NC, Y⟩ := Cl.news (h₀ := s.heap) (Nat.le_refl _) fun n c hm => ⟨x.cell n c (lookup_of_mem_nodup (cellsFrom_names scope.names 0 (s.heap.objs.size + 1) [] [] rfl ▸ hnd) hm), x.above n c hm⟩
  refine wpAny_mono (h (hideAll s.heap W) s.heap.objs.size h₁ tk cells (fun b o n e => hideAll_get _ e n) (fun a ha => hideAll_none _ ha) (fun b o e => ⟨hk₁ b o e, Heap.lt_size e⟩)
    ⟨x.toInCall.ns, fun b o e => hk₁ b o (of_hideAll _ e), Nat.le_of_eq (hideAll_size _ _)⟩ (fun p hp => ⟨(NC p hp).1, (NC p hp).2.1, ?_⟩) Y stg (S.X.keeps stg) (S.T.keeps stg)) (fun _ _ q => q) fun _ _ q => q.elim
  cases q : (hideAll s.heap W).get? p.1 with
  | none => rfl
  | some o => have := of_hideAll _ q; rw [(NC p hp).2.2] at this; cases this

open LCg LCt
section
variable {prog : Program} {w : World} {A : Around} {E : Value → Shared → Prop} {s : Shared} {h₀ : Heap} {L : Addr} {m : Str → Option Value} {env : Env}

theorem comp_inv {elt : Expr} {x : Str} {scope : Scope} {cl : List (Str × Addr)} {S : List (Addr × Obj) → Prop} {P : Nat → Value → Prop} {Fin : List Value → List (Addr × Obj) → Prop} (n : Nat)
    (J : Nat → List Value → List (Addr × Obj) → Prop)
    (step : ∀ i ys news v I oI C oC D m₂ h tk (E' : Value → Shared → Prop), i < n → J i ys news → P i v → NsObj oC m₂ → m₂ x = some v → Fr h₀ L h m → News h₀ L h ((I, oI) :: (C, oC) :: (D, lst ys) :: news) → Off3 I C D news → ((@Ne Nat I C) ∧ (@Ne Nat I D) ∧ (@Ne Nat C D)) →
      wpAny (model prog w) A (eval elt (compEnvC scope cl C env)) (CompEnd h₀ L m { s with heap := h, toks := tk } I oI C oC D (lst ys) S (fun y news' => J (i + 1) (ys ++ [y]) news')) E' { s with heap := h, toks := tk })
    (fin : ∀ ys news, J n ys news → Fin ys news) : ∀ (k i : Nat) (ys : List Value) (news : List (Addr × Obj)), i + k = n → J i ys news → CompRest prog w A h₀ L m env elt x scope cl s S P Fin k i ys news
  | 0, i, ys, news, e, hJ => CompRest.zero (fin _ _ (by rw [← e]; exact hJ))
  | k + 1, i, ys, news, e, hJ => CompRest.succ fun v I oI C oC D m₂ h tk E' hP hC hx F N off ne => wpAny_mono (step i ys news v I oI C oC D m₂ h tk E' (by omega) hJ hP hC hx F N off ne)
      (fun y s' ⟨h', tk', news', a, b, c, d, e', r⟩ => ⟨h', tk', news', a, b, c, d, e', comp_inv n J step fin k (i + 1) _ _ (by omega) r⟩) fun _ _ x => x

theorem compT_inv {ct elt : Expr} {x : Str} {scope : Scope} {cl : List (Str × Addr)} {S : List (Addr × Obj) → Prop} {P : Nat → Value → Prop} {Fin : List Value → List (Addr × Obj) → Prop} (n : Nat)
    (J : Nat → List Value → List (Addr × Obj) → Prop)
    (step : ∀ i ys news v I oI C oC D m₂ h tk (E' : Value → Shared → Prop), i < n → J i ys news → P i v → NsObj oC m₂ → m₂ x = some v → Fr h₀ L h m → News h₀ L h ((I, oI) :: (C, oC) :: (D, lst ys) :: news) → Off3 I C D news → ((@Ne Nat I C) ∧ (@Ne Nat I D) ∧ (@Ne Nat C D)) →
      wpAny (model prog w) A (isTrue ct (compEnvC scope cl C env) (eval ct (compEnvC scope cl C env))) (fun ok s' => if ok = true then
        wpAny (model prog w) A (eval elt (compEnvC scope cl C env)) (CompEnd h₀ L m { s with heap := h, toks := tk } I oI C oC D (lst ys) S (fun y news' => J (i + 1) (ys ++ [y]) news')) E' s'
        else CompEnd h₀ L m { s with heap := h, toks := tk } I oI C oC D (lst ys) S (fun _ news' => J (i + 1) ys news') Value.none s') E' { s with heap := h, toks := tk })
    (fin : ∀ ys news, J n ys news → Fin ys news) : ∀ (k i : Nat) (ys : List Value) (news : List (Addr × Obj)), i + k = n → J i ys news → CompRestT prog w A h₀ L m env ct elt x scope cl s S P Fin k i ys news
  | 0, i, ys, news, e, hJ => CompRestT.zero (fin _ _ (by rw [← e]; exact hJ))
  | k + 1, i, ys, news, e, hJ => CompRestT.succ fun v I oI C oC D m₂ h tk E' hP hC hx F N off ne => by
    have up : ∀ {ys' : List Value} {y : Value} {s' : Shared}, CompEnd h₀ L m { s with heap := h, toks := tk } I oI C oC D (lst ys) S (fun _ news' => J (i + 1) ys' news') y s' →
        CompEnd h₀ L m { s with heap := h, toks := tk } I oI C oC D (lst ys) S (fun _ news' => CompRestT prog w A h₀ L m env ct elt x scope cl s S P Fin k (i + 1) ys' news') y s' :=
      fun ⟨h', tk', news', a, b, c, d, e', r⟩ => ⟨h', tk', news', a, b, c, d, e', compT_inv n J step fin k (i + 1) _ _ (by omega) r⟩
    refine wpAny_mono (step i ys news v I oI C oC D m₂ h tk E' (by omega) hJ hP hC hx F N off ne) (fun ok s' h' => ?_) fun _ _ x => x
    cases ok with
    | true =>
      simp only [if_true] at h' ⊢
      exact wpAny_mono h' (fun y s'' ⟨h', tk', news', a, b, c, d, e', r⟩ => ⟨h', tk', news', a, b, c, d, e', compT_inv n J step fin k (i + 1) _ _ (by omega) r⟩) fun _ _ x => x
    | false =>
      simp only [Bool.false_eq_true, if_false] at h' ⊢
      exact up h'
end

/-! ## the bars' tuples in the ledger -/
def tupO (adr : Nat → Addr) (b : Nat × Nat) : Obj := { cls := .type "tuple", data := .seq [Value.ref (adr b.1), Value.ref (adr b.2)].toArray }
def zipT (adr : Nat → Addr) (as : List Addr) (bs : List (Nat × Nat)) : List (Addr × Obj) := List.zipWith (fun a b => (a, tupO adr b)) as bs
theorem zipT_snoc {adr : Nat → Addr} {as : List Addr} {bs : List (Nat × Nat)} (h : as.length = bs.length) (a : Addr) (b : Nat × Nat) : zipT adr (as ++ [a]) (bs ++ [b]) = zipT adr as bs ++ [(a, tupO adr b)] := by
  unfold zipT; rw [List.zipWith_append h]; rfl
def NoTup (o : Obj) : Prop := o.cls ≠ .type "tuple" ∨ ∃ v, o.data = .cell v
theorem zipT_ne {g h : Heap} {L : Addr} {news : List (Addr × Obj)} {adr : Nat → Addr} {as : List Addr} {bs : List (Nat × Nat)} {d : Addr} {o : Obj} (N : News g L h news) (hm : (d, o) ∈ news) (hk : NoTup o) (hs : ∀ p ∈ zipT adr as bs, p ∈ news) : ∀ p ∈ zipT adr as bs, p.1 ≠ d := by
  intro p hp e
  have h1 := (N p (hs p hp)).1
  rw [e, (N _ hm).1] at h1
  have ho : o = p.2 := Option.some.inj h1
  obtain ⟨i, hi, rfl⟩ := List.getElem_of_mem hp
  simp only [zipT, List.getElem_zipWith] at ho
  subst ho
  rcases hk with hk | ⟨v, hk⟩
  · exact hk rfl
  · cases hk
theorem NoTup.list {vs : Array Value} {e : Nat} : NoTup (listOf vs e) := .inl (by show Value.type "list" ≠ Value.type "tuple"; decide)
theorem zipT_at {g h : Heap} {L : Addr} {news : List (Addr × Obj)} {adr : Nat → Addr} {as : List Addr} {bs : List (Nat × Nat)} (N : News g L h news) (hs : ∀ p ∈ zipT adr as bs, p ∈ news) {i : Nat} (hi : i < as.length) (hl : as.length = bs.length) :
    IsTup h as[i] #[.ref (adr bs[i].1), .ref (adr bs[i].2)] := by
  have hm : (as[i], tupO adr bs[i]) ∈ zipT adr as bs := by
    have : i < (zipT adr as bs).length := by simp [zipT]; omega
    have e : (zipT adr as bs)[i] = (as[i], tupO adr bs[i]) := by simp [zipT]
    rw [← e]; exact List.getElem_mem this
  exact ⟨_, (N _ (hs _ hm)).1, rfl, 0, rfl⟩

theorem len_old {prog : Program} {w : World} {A : Around} {E : Value → Shared → Prop} {s : Shared} {g : Heap} {L H : Addr} {m : Str → Option Value} {adr : Nat → Addr} {xs : List Nat} {e : Nat} {Q : Value → Shared → Prop} (F : Fr g L s.heap m) (hg : g.get? H = some (listOf (refs adr xs).toArray e)) (hfit : xs.length ≤ 1000)
    (h : Q (.int (xs.length : Nat) (s.toks + 1)) { s with toks := s.toks + 1 + 1 }) : wpAny (model prog w) A (call (.builtin "len") [.ref H]) Q E s := by
  have hs : (refs adr xs).toArray.size = xs.length := by rw [List.size_toArray, refs_length]
  refine len_list (PySem.IsL.isList (F.keep _ _ hg)) (by rw [hs]; omega) ?_
  rw [hs]; exact h

theorem rep_flat (n : Nat) : (List.replicate n [Value.none]).flatten = List.replicate n Value.none := by
  induction n with
  | zero => rfl
  | succ n ih => rw [List.replicate_succ, List.flatten_cons, ih]; rfl
theorem mul_none {prog : Program} {w : World} {A : Around} {E : Value → Shared → Prop} {s : Shared} {g : Heap} {L l : Addr} {m : Str → Option Value} {news : List (Addr × Obj)} {n : Nat} {u : Tok} {Q : Value → Shared → Prop}
    (Fm : Fr g L s.heap m) (N : News g L s.heap news) (hm : (l, listOf #[Value.none] 0) ∈ news) (hn : n ≤ 1000)
    (h : ∀ D h', Fr g L h' m → News g L h' ((D, listOf (List.replicate n Value.none).toArray 0) :: news) → (∀ p ∈ news, p.1 < D) → Q (.ref D) { s with heap := h' }) : wpAny (model prog w) A (binaryOp .Mult (.ref l) (.int (n : Nat) u)) Q E s := by
  have hl : s.heap.IsList l ([Value.none] : List Value).toArray := ⟨_, (N _ hm).1, rfl, 0, rfl⟩
  have e : (List.replicate ((n : Nat) : Int).toNat ([Value.none] : List Value).toArray.toList).flatten = List.replicate n Value.none := by
    rw [Int.toNat_natCast]; exact rep_flat n
  have hlo : -(2 ^ 63 : Int) ≤ ((n : Nat) : Int) := by omega
  have hhi : ((n : Nat) : Int) < 2 ^ 63 := by omega
  have hsz : ([Value.none] : List Value).length * ((n : Nat) : Int).toNat ≤ 2 ^ 24 := by simp; omega
  generalize ((n : Nat) : Int) = x at e hlo hhi hsz ⊢
  generalize ([Value.none] : List Value) = vs at e hl hsz
  obtain ⟨⟨cls, d, data, sl⟩, ho, hcl, k, hd⟩ := id hl
  simp only at hcl hd
  subst hcl hd
  have hsz' : vs.toArray.size * x.toNat ≤ 2 ^ 24 := by simpa using hsz
  refine wpAny_binaryOp_repeat_ref (T := "list") (U := "int") (by decide) ⟨_, ho, rfl⟩ (fun s' => typeIs_int s' x u) noFill_list_mul F.fills_int_mul F.slot_int_rmul repeat_list F.slot_int_index.lookup
    (call_meets F.slot_int_rmul (typeIs_int s x u) F.entry_int_rmul (F.args_int_rmul_2 _ _) (lm_int_rmul_list_any x u l vs.toArray k d sl)
      ⟨ho, rfl, ⟨_, ho, rfl⟩, call_meets F.slot_list_mul ⟨_, ho, rfl⟩ F.entry_list_mul (F.args_list_mul_2 _ _)
        (lm_list_mul_any l vs.toArray k d sl x u (by simp [Builtin.List.listFitsIndex]; omega) (by omega) (by simp [Builtin.List.listTooLong, sizeLine]; omega))
        ⟨ho, ?_⟩⟩)
  have N' := News.push Fm N { cls := Value.type "list", data := Data.seq (List.foldl (fun x1 x2 => x1 ++ x2) #[] (List.replicate (if vs.toArray.isEmpty = true then 0 else x.toNat) vs.toArray)) }
  rw [listMul_foldl_if, e] at N'
  rw [listMul_foldl_if, e]
  exact h _ _ (Fm.push _) N' fun p hp => Heap.lt_size (N p hp).1

/-- the owners' list -/
def owv (adr : Nat → Addr) (o : Option Nat) : Value := match o with | none => .none | some k => .ref (adr k)
def owl (adr : Nat → Addr) (ow : List (Option Nat)) : List Value := ow.map (owv adr)
theorem owl_rep (adr : Nat → Addr) (n : Nat) : List.replicate n Value.none = owl adr (List.replicate n none) := by simp [owl, owv]
theorem owl_length (adr : Nat → Addr) (ow : List (Option Nat)) : (owl adr ow).length = ow.length := by simp [owl]

theorem refs_getD {adr : Nat → Addr} {n i : Nat} (hi : i < n) : (refs adr (List.range n)).getD i Value.none = .ref (adr i) := by
  simp [refs, List.getD_eq_getElem?_getD, hi]
theorem rlt_ltso (r : Nat → Int) (n : Nat) : LtSO n (rlt r) := ⟨fun i _ => (rlt_so r).irr i, fun i j k _ _ _ => (rlt_so r).tr i j k, fun i j _ _ e => (rlt_so r).tot i j e⟩

theorem sort_items {prog : Program} {w : World} {A : Around} {E : Value → Shared → Prop} {s : Shared} {g : Heap} {L It : Addr} {m : Str → Option Value} {news : List (Addr × Obj)} {r : Nat → Int} {n : Nat} {adr : Nat → Addr} {e0 : Nat} {b : Bool} {Q : Value → Shared → Prop}
    (F : Fr g L s.heap m) (N : News g L s.heap news) (hIt : g.get? It = some (listOf (refs adr (List.range n)).toArray e0)) (hI : Its r n adr g) (h64 : n < 64)
    (h : ∀ ds D h' e, Row (if b = true then rgt r else rlt r) n ds → Fr g L h' m → News g L h' ((D, listOf (refs adr ds).toArray e) :: news) → (∀ p ∈ news, p.1 < D) → Q (.ref D) { s with heap := h' }) :
    wpAny (model prog w) A (call (.builtin "sorted") [.ref It] [(Str.ofString "reverse", .bool b)]) Q E s := by
  have hlen : (refs adr (List.range n)).length = n := by rw [refs_length, List.length_range]
  have hIs := hI.keeps F.keep
  refine sorted_rev_S (κ := tuples' true) (L := rlt r) (PySem.IsL.isList (F.keep _ _ hIt)) (by rw [hlen]; exact h64) (fun h2 s' kp Q hq => ?_) (by rw [hlen]; exact rlt_ltso r n) (fun s' kp i j hi hj Q hq => ?_) fun p D h' e hp hs kp hD hg => ?_
  · refine kind_tups (T := "int") h2 (fun v hv => ?_) hq
    obtain ⟨k, hk, rfl⟩ := List.mem_map.mp hv
    obtain ⟨t, u, o, ho, hc, c, hd⟩ := hIs k (List.mem_range.mp hk)
    exact ⟨adr k, o, _, c, _, rfl, kp _ _ ho, hc, hd, rfl, fun A Q E s _ q => by exact wpAny_pure q⟩
  · rw [hlen] at hi hj
    rw [refs_getD hi, refs_getD hj]
    exact key_items ((hIs i hi).keeps (kp _)) ((hIs j hj).keeps (kp _)) hq
  · rw [hlen] at hp
    have e1 : (p.map fun i => (refs adr (List.range n)).getD i Value.none) = refs adr p := by
      unfold refs
      refine List.map_congr_left fun i hi => ?_
      exact refs_getD (adr := adr) (List.mem_range.mp (hp.subset hi))
    rw [e1] at hg
    refine h p D h' e ⟨hp, ?_⟩ (F.keeps kp) (fun q hq => ?_) (fun q hq => Nat.lt_of_lt_of_le (Heap.lt_size (N q hq).1) hD)
    · cases b with
      | false => simpa using hs
      | true => simpa using hs
    · rcases List.mem_cons.mp hq with rfl | hq
      · exact ⟨hg, Nat.ne_of_gt (Nat.lt_of_lt_of_le F.ns.lt hD), Heap.get?_none_of_le (Nat.le_trans F.above (Nat.le_trans (Nat.le_of_lt F.ns.lt) hD))⟩
      · exact ⟨kp _ _ (N q hq).1, (N q hq).2⟩
abbrev liObj (S i : Nat) : Obj := { cls := .type "list_iterator", data := .fields #[.ref S, .int (i : Nat) 0] }
theorem ltAll {g h : Heap} {L : Addr} {news : List (Addr × Obj)} (N : News g L h news) : AllLt h.objs.size news := allLt_of fun p hp => Heap.lt_size (N p hp).1
theorem walks_refs {prog : Program} {w : World} {A : Around} {I S : Addr} {adr : Nat → Addr} {xs : List Nat} {n : Nat} (hh : A.handled = none) (hne : S ≠ I) (hn : xs.length = n) :
    Walks prog w A I [I, S] [I] n (fun i v => v = .ref (adr (xs.getD i 0))) (fun i h => h.IsListIter I S i ∧ h.IsList S (refs adr xs).toArray) := by
  have e : (refs adr xs).toArray.size = n := by rw [List.size_toArray, refs_length, hn]
  have W := Walks.list (prog := prog) (w := w) (A := A) hh I S hne (refs adr xs).toArray
  rw [e] at W
  exact { sub := W.sub, frame := W.frame, done := W.done, self := W.self, item := fun i s Q E hi st hQ => W.item i s Q E hi st fun v h' tk hP => hQ v h' tk (by
    have := refs_get adr (xs := xs) (i := i) (by omega)
    rw [List.getElem?_toArray] at hP
    rw [this] at hP
    exact (Option.some.inj hP).symm) }
theorem NoTup.iter {o : Obj} (h : o.cls = .type "list_iterator") : NoTup o := .inl (by rw [h]; decide)
theorem NoTup.cell {o : Obj} {v : Option Value} (h : o.data = .cell v) : NoTup o := .inr ⟨v, h⟩
theorem news_second {g h h1 : Heap} {L H I : Addr} {oH oI oI' : Obj} {rest : List (Addr × Obj)} (N : News g L h ((H, oH) :: (I, oI) :: rest)) (hk : Kp [I] h h1) (hI : h1.get? I = some oI') (ne1 : H ≠ I) (ne : ∀ p ∈ rest, p.1 ≠ I) :
    News g L h1 ((H, oH) :: (I, oI') :: rest) := fun p hp => by
  rcases List.mem_cons.mp hp with rfl | hp
  · exact ⟨hk _ _ (by simpa using ne1) (N _ (List.mem_cons_self ..)).1, (N _ (List.mem_cons_self ..)).2⟩
  · rcases List.mem_cons.mp hp with rfl | hp
    · exact ⟨hI, (N (I, oI) (List.mem_cons_of_mem _ (List.mem_cons_self ..))).2⟩
    · have := N p (List.mem_cons_of_mem _ (List.mem_cons_of_mem _ hp))
      exact ⟨hk _ _ (by simpa using ne p hp) this.1, this.2⟩
theorem news_first {g h h1 : Heap} {L H : Addr} {oH oH' : Obj} {rest : List (Addr × Obj)} (N : News g L h ((H, oH) :: rest)) (hk : Kp [H] h h1) (hI : h1.get? H = some oH') (ne : ∀ p ∈ rest, p.1 ≠ H) :
    News g L h1 ((H, oH') :: rest) := fun p hp => by
  rcases List.mem_cons.mp hp with rfl | hp
  · exact ⟨hI, (N (H, oH) (List.mem_cons_self ..)).2⟩
  · have := N p (List.mem_cons_of_mem _ hp)
    exact ⟨hk _ _ (by simpa using ne p hp) this.1, this.2⟩

section
variable {prog : Program} {w : World} {A : Around} {E : Value → Shared → Prop} {s : Shared} {g : Heap} {L : Addr} {m : Str → Option Value} {news : List (Addr × Obj)}

theorem sub_item1 {a : Addr} {x : Int} {k : Nat} {u : Tok} {value slice : Expr} {Q : Value → Shared → Prop} (hI : Item s.heap a x k) (h : ∀ u', Q (.int (k : Nat) u') s)
    (hs : subscripted slice false (.ref a) (.int 1 u) = operate [.ref a, .int 1 u] (getItem (.ref a) (.int 1 u)) := by with_unfolding_all rfl) (hg : ∀ r, letTemporaryGo value (.ref a) r = pure () := by intro _; with_unfolding_all rfl) :
    wpAny (model prog w) A (subscriptTail value slice (.ref a) (.int 1 u)) Q E s := by
  obtain ⟨t, u', hI⟩ := hI
  exact item_tupleL (l := [Value.int x t, Value.int (k : Int) u']) (j := 1) hI (by decide) (by decide) rfl rfl (h u') hs hg
theorem sub_item0 {a : Addr} {x : Int} {k : Nat} {u : Tok} {value slice : Expr} {Q : Value → Shared → Prop} (hI : Item s.heap a x k) (h : ∀ u', Q (.int x u') s)
    (hs : subscripted slice false (.ref a) (.int 0 u) = operate [.ref a, .int 0 u] (getItem (.ref a) (.int 0 u)) := by with_unfolding_all rfl) (hg : ∀ r, letTemporaryGo value (.ref a) r = pure () := by intro _; with_unfolding_all rfl) :
    wpAny (model prog w) A (subscriptTail value slice (.ref a) (.int 0 u)) Q E s := by
  obtain ⟨t, u', hI⟩ := hI
  exact item_tupleL (l := [Value.int x t, Value.int (k : Int) u']) (j := 0) hI (by decide) (by decide) rfl rfl (h t) hs hg
theorem sub_bar0 {a : Addr} {p q : Value} {u : Tok} {value slice : Expr} {Q : Value → Shared → Prop} (hI : IsTup s.heap a #[p, q]) (h : Q p s)
    (hs : subscripted slice false (.ref a) (.int 0 u) = operate [.ref a, .int 0 u] (getItem (.ref a) (.int 0 u)) := by with_unfolding_all rfl) (hg : ∀ r, letTemporaryGo value (.ref a) r = pure () := by intro _; with_unfolding_all rfl) :
    wpAny (model prog w) A (subscriptTail value slice (.ref a) (.int 0 u)) Q E s :=
  item_tupleL (l := [p, q]) (j := 0) hI (by decide) (by decide) rfl rfl h hs hg
theorem sub_bar1 {a : Addr} {p q : Value} {u : Tok} {value slice : Expr} {Q : Value → Shared → Prop} (hI : IsTup s.heap a #[p, q]) (h : Q q s)
    (hs : subscripted slice false (.ref a) (.int 1 u) = operate [.ref a, .int 1 u] (getItem (.ref a) (.int 1 u)) := by with_unfolding_all rfl) (hg : ∀ r, letTemporaryGo value (.ref a) r = pure () := by intro _; with_unfolding_all rfl) :
    wpAny (model prog w) A (subscriptTail value slice (.ref a) (.int 1 u)) Q E s :=
  item_tupleL (l := [p, q]) (j := 1) hI (by decide) (by decide) rfl rfl h hs hg

theorem ne_same {a : Addr} {x : Int} {k : Nat} {Q : Value → Shared → Prop} (hI : Item s.heap a x k) (hu : A.units < cLine) (h : Q (.bool false) s) : wpAny (model prog w) A (compareOp .NotEq (.ref a) (.ref a)) Q E s := by
  obtain ⟨t, u, hI⟩ := hI
  refine cmp_ofNotEq (RcNeAt.tuples (e := fun _ => true) hI hI hu (fun j h1 h2 => ?_) prog w _ _ ?_)
  · have hx : j = 0 ∨ j = 1 := by simp at h1; omega
    rcases hx with rfl | rfl
    · have := EqAt_int (A := A.in1) (s := s) x x t t
      simpa using this
    · have := EqAt_int (A := A.in1) (s := s) (k : Int) (k : Int) u u
      simpa using this
  · have e : (!((List.range (min (#[Value.int x t, Value.int (k : Int) u] : Array Value).size (#[Value.int x t, Value.int (k : Int) u] : Array Value).size)).all (fun _ => true) && (#[Value.int x t, Value.int (k : Int) u] : Array Value).size == (#[Value.int x t, Value.int (k : Int) u] : Array Value).size)) = false := by simp
    rw [e]; exact h
theorem rc_items {r : Nat → Int} {a b : Addr} {i j : Nat} (ha : Item s.heap a (r i) i) (hb : Item s.heap b (r j) j) (hu : A.units < cLine) : RcAt A s (.ref a) (.ref b) (decide (i = j)) := by
  obtain ⟨t, u, ha⟩ := ha
  obtain ⟨t', u', hb⟩ := hb
  have h := RcAt.tuples (A := A) (s := s) (e := fun x => if x = 0 then r i == r j else (i : Int) == (j : Int)) (l := a) (b := b) ha hb hu (fun x h1 h2 => ?_)
  · have e3 : ((List.range (min #[Value.int (r i) t, Value.int (i : Int) u].size #[Value.int (r j) t', Value.int (j : Int) u'].size)).all (fun x => if x = 0 then r i == r j else (i : Int) == (j : Int)) && #[Value.int (r i) t, Value.int (i : Int) u].size == #[Value.int (r j) t', Value.int (j : Int) u'].size) = decide (i = j) := by
      by_cases e : i = j
      · subst e; simp [List.range_succ]
      · have hij : ¬ ((i : Int) = (j : Int)) := by omega
        simp [List.range_succ, e, hij]
    rw [e3] at h
    exact h
  · have hx : x = 0 ∨ x = 1 := by simp at h1; omega
    rcases hx with rfl | rfl
    · exact EqAt_int _ _ _ _
    · exact EqAt_int _ _ _ _
theorem eq_items_c {r : Nat → Int} {n : Nat} {adr : Nat → Addr} {a c : Nat} {Q : Value → Shared → Prop} (F : Fr g L s.heap m) (hI : Its r n adr g) (ha : a < n) (hc : c < n) (hu : A.units < cLine) (h : Q (.bool (decide (a = c))) s) :
    wpAny (model prog w) A (compareOp .Eq (.ref (adr a)) (.ref (adr c))) Q E s :=
  cmp_ofEq (rc_items ((hI a ha).keeps (F.keep _)) ((hI c hc).keeps (F.keep _)) hu prog w _ _ h)

theorem owl_get (adr : Nat → Addr) {ow : List (Option Nat)} {i : Nat} (hi : i < ow.length) : (owl adr ow)[i]? = some (owv adr (ow.getD i none)) := by
  simp [owl, List.getD_eq_getElem?_getD, hi]
theorem sub_owl {OW : Addr} {adr : Nat → Addr} {ow : List (Option Nat)} {e : Nat} (i : Nat) {k : Int} {u : Tok} {value slice : Expr} {Q : Value → Shared → Prop} (N : News g L s.heap news) (hm : (OW, listOf (owl adr ow).toArray e) ∈ news)
    (hk : k = (i : Int)) (hi : i < ow.length) (hfit : ow.length ≤ 1000) (h : Q (owv adr (ow.getD i none)) s)
    (hs : subscripted slice false (.ref OW) (.int k u) = operate [.ref OW, .int k u] (getItem (.ref OW) (.int k u)) := by with_unfolding_all rfl) (hg : ∀ r, letTemporaryGo value (.ref OW) r = pure () := by intro _; with_unfolding_all rfl) :
    wpAny (model prog w) A (subscriptTail value slice (.ref OW) (.int k u)) Q E s := by
  subst hk
  exact kim_list N hm rfl rfl (by omega) (by omega) (by rw [Int.toNat_natCast]; exact owl_get adr hi) h hs hg
theorem set_owl {OW : Addr} {adr : Nat → Addr} {ow : List (Option Nat)} {e : Nat} {gn : Obj → List (Addr × Obj)} (i : Nat) {k : Int} {u : Tok} {o : Nat} {Q : Unit → Shared → Prop} (F : Fr g L s.heap m) (N : News g L s.heap news) (U : UpdF OW (listOf (owl adr ow).toArray e) news gn)
    (hk : k = (i : Int)) (hi : i < ow.length) (hfit : ow.length ≤ 1000)
    (h : ∀ h', Fr g L h' m → News g L h' (gn (listOf (owl adr (ow.set i (some o))).toArray e)) → Q () { s with heap := h' }) :
    wpAny (model prog w) A (setItem (.ref OW) (.int k u) (.ref (adr o))) Q E s := by
  subst hk
  obtain ⟨pre, post, e0, hgn, x1, x2⟩ := U.split
  rw [e0] at N
  have z := N (OW, listOf (owl adr ow).toArray e) (List.mem_append_right _ (.head _))
  have hs : (owl adr ow).toArray.size = ow.length := by rw [List.size_toArray, owl_length]
  have e1 : (owl adr ow).toArray.setIfInBounds i (.ref (adr o)) = (owl adr (ow.set i (some o))).toArray := by
    apply Array.toList_inj.mp
    simp [owl, List.map_set, owv]
  have hset := Heap.SameBut.update s.heap OW (Obj.mapSeq (·.setIfInBounds (i : Int).toNat (.ref (adr o))))
  refine ki_setAt z.1 (by omega) (by omega) (by rw [hs]; omega) (h _ (F.change hset z.2.1 z.2.2) ?_)
  rw [hgn]
  refine news_set N x1 x2 hset ?_
  rw [Heap.get?_update_self _ z.1 (by simp [Obj.mapSeq, Obj.isFreed])]
  simp [Obj.mapSeq, e1, owl_length]
theorem append_tup {BR t : Addr} {as : List Addr} {e : Nat} {gn : Obj → List (Addr × Obj)} {Q : Value → Shared → Prop} (F : Fr g L s.heap m) (N : News g L s.heap news) (U : UpdF BR (listOf (as.map Value.ref).toArray e) news gn) (hfit : as.length ≤ 1000)
    (h : ∀ h', Fr g L h' m → News g L h' (gn (listOf ((as ++ [t]).map Value.ref).toArray (e + 1))) → Q .none { s with heap := h' }) :
    wpAny (model prog w) A (call (.builtin "list.append") [.ref BR, .ref t]) Q E s := by
  obtain ⟨pre, post, e0, hgn, x1, x2⟩ := U.split
  rw [e0] at N
  have z := N (BR, listOf (as.map Value.ref).toArray e) (List.mem_append_right _ (.head _))
  refine append_at (hsz := by rw [List.size_toArray, List.length_map, sizeLine_eq]; omega) z.1 fun h' hs ho' => h h' (F.change hs z.2.1 z.2.2) ?_
  rw [hgn]
  refine news_set N x1 x2 hs (ho'.trans ?_)
  simp
end
theorem pv_int {n d : Nat} (h2 : 2 ≤ n) (hd : d < n) : ((d : Int) - 1).fmod (n : Int) = ((pv n d : Nat) : Int) := by
  unfold pv
  rw [Int.fmod_eq_emod_of_nonneg _ (by omega)]
  by_cases h0 : d = 0
  · subst h0
    have e1 : (0 + n - 1) % n = n - 1 := by rw [Nat.mod_eq_of_lt (by omega)]; omega
    rw [e1]
    have e2 : (((0 : Nat) : Int) - 1) % (n : Int) = (n : Int) - 1 := by
      rw [show (((0 : Nat) : Int) - 1) = ((n : Int) - 1) + (n : Int) * (-1) by omega, Int.add_mul_emod_self_left]
      exact Int.emod_eq_of_lt (by omega) (by omega)
    rw [e2]; omega
  · rw [show d + n - 1 = (d - 1) + n by omega, Nat.add_mod_right, Nat.mod_eq_of_lt (by omega)]
    rw [Int.emod_eq_of_lt (by omega) (by omega)]
    omega
theorem nx_int {n d : Nat} (h2 : 2 ≤ n) : ((d : Int) + 1).fmod (n : Int) = ((nx n d : Nat) : Int) := by
  unfold nx
  rw [Int.fmod_eq_emod_of_nonneg _ (by omega), Int.natCast_emod]
  rfl

theorem bruns_snoc {lt : Nat → Nat → Bool} {n : Nat} {l : List Nat} {k : Nat} {st : List (Option Nat) × List (Nat × Nat)} (h : bruns lt n l = st) : bruns lt n (l ++ [k]) = bstep lt n st k := by
  rw [← h]; simp [bruns]
theorem on_set {n d v : Nat} {ow : List (Option Nat)} (hon : ∀ o ∈ ow, ∀ k, o = some k → k < n) (hv : v < n) : ∀ o ∈ ow.set d (some v), ∀ k, o = some k → k < n := fun o ho k e =>
  (List.mem_or_eq_of_mem_set ho).elim (fun h => hon o h k e) fun h => by rw [h] at e; cases e; exact hv
theorem on_get {n i a : Nat} {ow : List (Option Nat)} (hon : ∀ o ∈ ow, ∀ k, o = some k → k < n) (h : ow.getD i none = some a) : a < n := by
  rw [List.getD_eq_getElem?_getD] at h
  cases e : ow[i]? with
  | none => rw [e] at h; cases h
  | some o => rw [e] at h; exact hon o (List.mem_of_getElem? e) a h

theorem eq_none_item {prog : Program} {w : World} {A : Around} {E : Value → Shared → Prop} {s : Shared} {a : Addr} {x : Int} {k : Nat} {Q : Value → Shared → Prop} (hI : Item s.heap a x k) (hu : A.units < cLine) (h : Q (.bool false) s) :
    wpAny (model prog w) A (compareOp .Eq .none (.ref a)) Q E s := by
  obtain ⟨t, u, hI⟩ := hI
  exact cmp_ofEq (RcAt.none_tuple hI hu prog w _ _ h)
theorem take_map_snoc {α β : Type} (f : α → β) (l : List α) (i : Nat) (d : α) (hi : i < l.length) : (l.take (i + 1)).map f = (l.take i).map f ++ [f (l.getD i d)] := by
  rw [List.take_add_one, List.getD_eq_getElem?_getD, List.getElem?_eq_getElem hi, List.map_append]; rfl
theorem owl_take {adr : Nat → Addr} {f : Option Nat → Option Nat} {ow : List (Option Nat)} {i : Nat} {y : Value} (hi : i < ow.length) (hy : y = owv adr (f (ow.getD i none))) :
    owl adr ((ow.take i).map f) ++ [y] = owl adr ((ow.take (i + 1)).map f) := by
  rw [take_map_snoc f ow i none hi, hy]; simp [owl]
theorem on_map {n yo el : Nat} {ow : List (Option Nat)} (hon : ∀ o ∈ ow, ∀ k, o = some k → k < n) (hel : el < n) : ∀ o ∈ ow.map (fun x => if x = some yo then some el else x), ∀ k, o = some k → k < n := fun o ho k e => by
  obtain ⟨x, hx, rfl⟩ := List.mem_map.mp ho
  split at e
  · cases e; exact hel
  · exact hon x hx k e
end Mine
end

section
open PySem PySem.W PyProof.Rows PySem.Calls PySem.SeqAt
set_option Elab.async false
set_option linter.unusedVariables false
set_option maxRecDepth 100000
set_option maxHeartbeats 8000000
namespace Mine
open LCg LCt
local macro_rules | `(tactic| walk_at "lk") => `(tactic| first | with_reducible assumption | ((try dsimp only); with_reducible refine lkY ?_; with_reducible exact rfl) | ((try dsimp only); with_reducible refine lkN (by decide) ?_; walk_at "lk") | exact rfl)
local macro_rules | `(tactic| walk_at "eval Name") => `(tactic| (k_here; k_dflt (refine' nameX_L ?F ?v ?_ ?a ?b; (case F => with_reducible assumption); (case a => rfl); (case b => rfl); (case v => walk_at "lk"); k_whole)))
local macro_rules | `(tactic| walk_at "w") => `(tactic| ((try dsimp only); (with_reducible show wpAny _ _ _ _ _ _); (fail_if_success (with_reducible show wpAny _ _ (exec (Stmt.While _ _ _ _) _) _ _ _)); (fail_if_success (with_reducible show wpAny _ _ (exec (Stmt.For _ _ _ _ _) _) _ _ _)); (fail_if_success (with_reducible show wpAny _ _ (subscriptTail _ _ (Value.ref _) _) _ _ _)); (fail_if_success (with_reducible show wpAny _ _ (setItem (Value.ref _) _ _) _ _ _)); (fail_if_success (with_reducible show wpAny _ _ (binaryOp Operator.Mult (Value.ref _) _) _ _ _)); (fail_if_success (with_reducible show wpAny _ _ (binaryOp Operator.Mod _ _) _ _ _)); (fail_if_success (with_reducible show wpAny _ _ (call (Value.builtin "list.append") _ _) _ _ _)); (fail_if_success (with_reducible show wpAny _ _ (call (Value.builtin "sorted") _ _) _ _ _)); (fail_if_success (with_reducible show wpAny _ _ (call (Value.builtin "min") _ _) _ _ _)); (fail_if_success (with_reducible show wpAny _ _ (call (Value.builtin "max") _ _) _ _ _)); (fail_if_success (with_reducible show wpAny _ _ (eqBool (Value.ref _) _) _ _ _)); (fail_if_success (with_reducible show wpAny _ _ (eval (Expr.ListComp _ _ _ _) _) _ _ _)); (fail_if_success (with_reducible show wpAny _ _ (compareOp _ (Value.ref _) (Value.ref _)) _ _ _)); (fail_if_success (with_reducible show wpAny _ _ (call (Value.ref _) _ _) _ _ _)); walk1; (try dsimp only)))
local macro_rules | `(tactic| walk_at "ws") => `(tactic| repeat ((fail_if_success (with_reducible show wpAny _ _ (storeName _ _ _) _ _ _)); walk_at "w"))
local macro_rules | `(tactic| walk_at "call builtin:len") => `(tactic| ((with_reducible refine len_refs (by with_reducible assumption) ?_ ?_); (omega)))


local macro_rules | `(tactic| walk_at "my mem") => `(tactic| first | with_reducible exact List.mem_cons_self | (with_reducible refine List.mem_cons_of_mem _ ?_; walk_at "my mem"))
local macro_rules | `(tactic| walk_at "my all") => `(tactic| first
  | ((with_reducible refine List.forall_mem_cons.mpr ⟨?_, ?_⟩); (focus k_ne); walk_at "my all")
  | with_reducible exact List.forall_mem_nil _
  | ((with_reducible refine' zipT_ne ?zN ?zm ?zk ?zs); (case zN => with_reducible assumption); (case zm => walk_at "my mem"); (case zk => first | with_reducible exact NoTup.list | exact NoTup.iter (by with_reducible assumption) | exact NoTup.cell (by with_reducible assumption)); (case zs => (intro p hp; repeat (first | with_reducible exact hp | with_reducible refine List.mem_cons_of_mem _ ?_)))))
local macro_rules | `(tactic| walk_at "my updF") => `(tactic| first | ((with_reducible refine' UpdF.head ?ha); (case ha => walk_at "my all")) | ((with_reducible refine' UpdF.tail ?ta ?tb); (case ta => k_ne); (case tb => walk_at "my updF")))
local macro_rules | `(tactic| walk_at "storeName") => `(tactic| (k_here; k_dflt (refine' storeX_C ?F ?N ?c ?U ?d ?_ ?a ?b; (case b => rfl); (case a => rfl); (case F => with_reducible assumption); (case N => with_reducible assumption); (case c => rfl); (case U => walk_at "my updF"); (case d => with_reducible assumption); k_whole; intro h' o' F' N' d'; (try dsimp only at N'); (try k_sweep))))

local macro_rules | `(tactic| walk_at "ifs") => `(tactic| first | with_reducible refine Eq.mpr (if_pos rfl) ?_ | with_reducible refine Eq.mpr (if_neg Bool.false_ne_true) ?_ | with_reducible refine Eq.mpr (if_neg (show ¬ ((!true) = true) by decide)) ?_ | with_reducible refine Eq.mpr (if_pos (show (!false) = true by decide)) ?_)
local macro_rules | `(tactic| walk_at "wi") => `(tactic| repeat (first | walk_at "w" | walk_at "ifs"))

theorem fillWE (w : World) (s : Shared) (A : Around) (h : (hd.heap_39 w.params).In s.heap → wpAny (model Challenge.rw_dj5012_01.row.prog w) A (pure ()) (fun _ _ => True) (fun _ _ => False) s) :
   (hd.heap_39 w.params).In s.heap → wpAny (model Challenge.rw_dj5012_01.row.prog w) A (pure ()) (fun _ _ => True) (fun _ _ => False) s := by
  k_fill
  exact h

theorem law_bars_c {w : World} {A : Around} {s : Shared} {G : Heap} {R : Result → Shared → Prop} {mean : ExcName → Option Value} {mg mb : Str → Option Value} (S : Sta w G mean mg mb) (st : G.StaysIn s.heap)
   {r : Nat → Int} {n : Nat} {adr : Nat → Addr} {It H : Addr} {xs : List Nat} {e0 e : Nat} (hH : G.get? H = none) (hl : s.heap.get? H = some (listOf (refs adr xs).toArray e)) (hIt : s.heap.get? It = some (listOf (refs adr (List.range n)).toArray e0)) (hne : It ≠ H)
   (h2 : 2 ≤ n) (h64 : n < 64) (hxs : xs.Perm (List.range n)) (hhp : IsHp (rlt r) xs 0) (hI : Its r n adr s.heap) (hroom : A.depth + 3 < recursionLimit) (hunits : A.units + 60 < cLine) (hh : A.handled = none)
   (k : ∀ h' tk B e' as ds, Kp [H] s.heap h' → s.heap.get? B = none → Row (rlt r) n ds → as.length = (bruns (rlt r) n ds).2.length → h'.get? B = some (listOf (as.map Value.ref).toArray e') → (∀ p ∈ zipT adr as (bruns (rlt r) n ds).2, h'.get? p.1 = some p.2) → (∀ p ∈ zipT adr as (bruns (rlt r) n ds).2, s.heap.get? p.1 = none) →
     R (.ok (.ret (.ref B))) { s with heap := h', toks := tk }) :
   codeAny (model PG w) A (.call (.ref 81) ⟨[.ref It, .ref H, .bool true], []⟩) R s := by
  refine' enterC (W := [H]) [(Str.ofString "items", .ref It), (Str.ofString "heap", .ref H), (Str.ofString "rising", .bool true)] S st (by simpa using hH) ?k6 ?k7 (by omega) ?k9 ?kB ?kN ?_ ?c2 ?c3 ?c4
  (case k6 => k_is)
  (case k7 => k_is)
  (case k9 => exact BindsTo.of_eq rfl)
  (case kB => exact rfl)
  (case kN => decide)
  (case c2 => exact rfl)
  (case c3 => exact rfl)
  (case c4 => exact rfl)
  intro g L h₁ tk cells kp hg kk F NC Y sg X' T'
  have hY := PyProof.Rows.CellsAre.two Y
  obtain ⟨o1, o2, hE, d1, d2⟩ := hY
  subst hE
  clear Y
  have d1' : o1.data = .cell none := d1
  have d2' : o2.data = .cell none := d2
  clear d1 d2
  have F0 : Fr g L h₁ (fun y => if y = Str.ofString "rising" then some (.bool true) else if y = Str.ofString "heap" then some (.ref H) else if y = Str.ofString "items" then some (.ref It) else none) := F
  clear F
  have hHL : @LT.lt Nat _ H L := (kk _ _ hl).2
  have hItL : @LT.lt Nat _ It L := (kk _ _ hIt).2
  have N0 : News g L h₁ [(H, listOf (refs adr xs).toArray e), (L + 1 + 1, o1), (L + 1, o2)] := fun p hp => by
    rcases List.mem_cons.mp hp with rfl | hp
    · exact ⟨(kk _ _ hl).1, Nat.ne_of_lt (kk _ _ hl).2, hg _ (by simp)⟩
    · exact NC p hp
  clear NC
  have hIg : Its r n adr g := hI.kp hl kp
  have hItg : g.get? It = some (listOf (refs adr (List.range n)).toArray e0) := kp _ _ (by simpa using hne) hIt
  have hItl : g.IsList It (refs adr (List.range n)).toArray := ⟨_, hItg, rfl, _, rfl⟩
  have hlen : xs.length = n := by rw [hxs.length_eq, List.length_range]
  have hxn : ∀ k ∈ xs, k < n := fun k hk => List.mem_range.mp (hxs.subset hk)
  clear kk
  try dsimp only
  repeat walk_at "w"
  refine len_old F0 hItg (by rw [List.length_range]; omega) ?_
  rw [List.length_range]
  (try dsimp only)
  repeat walk_at "w"
  (rename Fr _ _ _ _ => F1); (rename News _ _ _ _ => N1)
  refine mul_none F1 N1 (List.mem_cons_self ..) (by omega) ?_
  intro OW h1' F2 N2 lOW
  have lOW' := allLt_of lOW
  simp only [AllLt, and_true] at lOW'
  clear lOW
  repeat walk_at "w"
  (rename Fr _ _ _ _ => F3); (rename News _ _ _ _ => N3)
  rename_i BR _ lBR _
  refine wpAny_For ?_ (by intro _; with_unfolding_all rfl)
  repeat walk_at "w"
  (try dsimp only)
  refine sort_items (b := false) F3 N3 hItg hIg h64 ?_
  intro ds Sd h4 es hRow F4 N4 lSd
  have lSd' := allLt_of lSd
  simp only [AllLt, and_true] at lSd'
  clear lSd
  (try dsimp only)
  replace hRow : Row (rlt r) n ds := by simpa using hRow
  have hSl := PySem.IsL.isList (N4 _ (List.mem_cons_self ..)).1
  refine wpAny_pyIter_list hSl ?_
  (try dsimp only)
  have F5 := F4.push (liObj Sd 0)
  have N5 := N4.push F4 (liObj Sd 0)
  have hgI := F4.fresh
  have hLI := Nat.ne_of_lt F4.ns.lt
  have hSz : ∀ {p : Addr} {o : Obj}, h4.get? p = some o → @LT.lt Nat _ p h4.objs.size := fun e => Heap.lt_size e
  have ltS := hSz (N4 _ (List.mem_cons_self ..)).1
  have ltG' := ltAll N4
  simp only [AllLt, and_true] at ltG'
  generalize hIa : h4.objs.size = I at F5 N5 hgI hLI ltS ltG' ⊢
  have hpush : ∀ b o, h4.get? b = some o → (h4.push (liObj Sd 0)).get? b = some o := fun b o e => Heap.get?_push_of_some _ e
  rw [owl_rep adr n] at N5
  have hdl : ds.length = n := by rw [hRow.perm.length_eq, List.length_range]
  have hdn : ∀ k ∈ ds, k < n := fun k hk => List.mem_range.mp (hRow.perm.subset hk)
  obtain ⟨J, hJ⟩ : ∃ J : Nat → Shared → Prop, J = (fun i s' => ∃ h tk m hx eh OW ow ew as bs eb oI oy oe vy ve tsz, s' = { s with heap := h, toks := tk } ∧ Fr g L h m ∧
      News g L h ((H, listOf (refs adr hx).toArray eh) :: (I, oI) :: (Sd, listOf (refs adr ds).toArray es) :: (OW, listOf (owl adr ow).toArray ew) :: (BR, listOf (as.map Value.ref).toArray eb) :: (L + 1 + 1, oy) :: (L + 1, oe) :: zipT adr as bs) ∧
      ([H, I, Sd, OW, BR, L + 1 + 1, L + 1] : List Nat).Pairwise (fun a b => a ≠ b) ∧ (oI.cls = .type "list_iterator" ∧ oI.data = .fields #[.ref Sd, .int (i : Nat) 0]) ∧ oy.data = .cell vy ∧ oe.data = .cell ve ∧
      m (Str.ofString "heap") = some (.ref H) ∧ m (Str.ofString "rising") = some (.bool true) ∧ m (Str.ofString "size") = some (.int (n : Nat) tsz) ∧ m (Str.ofString "owner") = some (.ref OW) ∧ m (Str.ofString "bars") = some (.ref BR) ∧
      as.length = bs.length ∧ bruns (rlt r) n (ds.take i) = (ow, bs) ∧ (ow.length = n ∧ ∀ o ∈ ow, ∀ k, o = some k → k < n) ∧ bs.length ≤ i ∧ hx.Perm (ds.drop i) ∧ IsHp (rlt r) hx 0) := ⟨_, rfl⟩
  refine for_walks (walks_refs (A := A.deeper _) (adr := adr) (xs := ds) (n := n) hh (Nat.ne_of_lt ltS) hdl) J ?_ ?_ ?_ ?_
  · rw [hJ]
    refine ⟨_, _, _, xs, e, OW, List.replicate n none, 0, [], [], 0, liObj Sd 0, o1, o2, none, none, _, rfl, F5, ?_, ?_, ⟨rfl, rfl⟩, d1', d2', by walk_at "lk", by walk_at "lk", by walk_at "lk", by walk_at "lk", by walk_at "lk", rfl, by rw [List.take_zero]; rfl, ⟨by simp, fun o ho k e => by rw [List.eq_of_mem_replicate ho] at e; cases e⟩, Nat.le_refl _, by rw [List.drop_zero]; exact hxs.trans hRow.perm.symm, hhp⟩
    · intro p hp
      iterate 7 (rcases List.mem_cons.mp hp with rfl | hp; · first | exact N5 _ (by walk_at "my mem") | (have q := N5 (BR, listOf #[] 0) (by walk_at "my mem"); exact q))
      exact absurd hp (by simp [zipT])
    · simp only [List.pairwise_cons, List.mem_cons, List.mem_nil_iff, or_false, forall_eq_or_imp, forall_eq, List.Pairwise.nil, and_true, implies_true, false_implies]
      repeat' apply And.intro
      all_goals omega
  · intro i s' hj
    rw [hJ] at hj
    obtain ⟨h, tk, m, hx, eh, OW, ow, ew, as, bs, eb, oI, oy, oe, vy, ve, tsz, rfl, F6, N6, dis, ⟨oI1, oI2⟩, _⟩ := hj
    exact ⟨⟨oI, (N6 (I, oI) (by walk_at "my mem")).1, oI1, oI2⟩, PySem.IsL.isList (N6 (Sd, _) (by walk_at "my mem")).1⟩
  · intro i s' v h1 tk1 hi hj hv hst hkp
    subst hv
    rw [hJ] at hj
    obtain ⟨h, tk, m, hx, eh, OW, ow, ew, as, bs, eb, oI, oy, oe, vy, ve, tsz, rfl, F6, N6, dis, ⟨oI1, oI2⟩, c1, c2, m1, m2, m3, m4, m5, hab, hbr, ⟨how, hon⟩, hbl, hperm, hhp'⟩ := hj
    clear F5 N5 F4 N4 F3 N3
    (try dsimp only)
    obtain ⟨⟨oI', hoI, oI1', oI2'⟩, _⟩ := hst
    simp only [List.pairwise_cons, List.mem_cons, List.mem_nil_iff, or_false, forall_eq_or_imp, forall_eq, List.Pairwise.nil, and_true, implies_true, false_implies] at dis
    have F7 := frKp F6 hkp (by simpa using hLI) (by simpa using hgI)
    have N7 := news_second N6 hkp hoI (by k_ne) (by walk_at "my all")
    clear N6 F6
    repeat walk_at "w"
    first | rw [if_pos rfl] | rw [if_neg Bool.false_ne_true]
    repeat walk_at "w"
    (rename Fr _ _ _ _ => F8); (rename News _ _ _ _ => N8)
    have hdrop : ds.drop i = ds.getD i 0 :: ds.drop (i + 1) := by
      rw [List.drop_eq_getElem_cons (by omega), List.getD_eq_getElem?_getD, List.getElem?_eq_getElem (by omega)]; rfl
    have htake : ds.take (i + 1) = ds.take i ++ [ds.getD i 0] := by
      rw [List.take_add_one, List.getD_eq_getElem?_getD, List.getElem?_eq_getElem (by omega)]; rfl
    have hdn' : ds.getD i 0 < n := hdn _ (getD_mem (by omega))
    have hhxn : ∀ k ∈ hx, k < n := fun k hk => hdn k (List.drop_subset _ _ (hperm.subset hk))
    have hhl : hx.length = n - i := by rw [hperm.length_eq, List.length_drop, hdl]
    rw [hdrop] at hperm
    have hsd : (ds.getD i 0 :: ds.drop (i + 1)).Pairwise (fun a b => rlt r a b = true) := by rw [← hdrop]; exact hRow.sorted.sublist (List.drop_sublist _ _)
    obtain ⟨hd0, hd1, hd2⟩ := pop_spec (rlt_so r) hhp' hperm hsd
    refine ⟨X'.keeps F8.keep, ?_⟩
    (try dsimp only [List.nil_append, List.cons_append])
    refine wpAny_call ?_
    refine' heappop_c S ?st hH ?hl ?hne ?hf ?hI ?hx ?hr ?hu ?k
    (case st => exact fun b o e => F8.keep _ _ (sg b o e))
    (case hl => exact (N8 _ (List.mem_cons_self ..)).1)
    (case hne => omega)
    (case hf => omega)
    (case hI => exact hIg.keeps F8.keep)
    (case hx => exact hhxn)
    (case hr => show A.depth + 1 + 2 < _; omega)
    (case hu => show A.units + 3 + 30 < _; omega)
    intro h9 tk9 e9 kp9 hl9
    (try dsimp only)
    have F9 := frKp F8 kp9 (by simpa using Nat.ne_of_gt hHL) hg
    have N9 := news_first N8 kp9 hl9 (by walk_at "my all")
    clear N8 F8
    (try clear N7)
    (try clear F7)
    rw [hd0]
    have hdI : Item g (adr (ds.getD i 0)) (r (ds.getD i 0)) (ds.getD i 0) := hIg _ hdn'
    generalize hdd : ds.getD i 0 = d at *
    repeat walk_at "w"
    (rename Fr _ _ _ _ => F10); (rename News _ _ _ _ => N10)
    refine ne_same (hdI.keeps (F10.keep _)) (by show A.units + 3 < cLine; omega) ?_
    repeat walk_at "w"
    first | rw [if_neg Bool.false_ne_true] | rw [if_pos rfl]
    repeat walk_at "w"
    (rename Fr _ _ _ _ => F11); (rename News _ _ _ _ => N11)
    refine sub_item1 (hdI.keeps (F11.keep _)) ?_
    intro ud
    (try dsimp only)
    repeat walk_at "w"
    refine mod_int' (by omega) ?_
    rw [pv_int h2 hdn']
    (try dsimp only)
    repeat walk_at "w"
    (rename Fr _ _ _ _ => F12); (rename News _ _ _ _ => N12)
    refine sub_owl (pv n d) N12 (by walk_at "my mem") rfl (by rw [how]; exact pv_lt (by omega) d) (by omega) ?_
    (try dsimp only)
    repeat walk_at "w"
    refine mod_int' (by omega) ?_
    rw [nx_int h2]
    (try dsimp only)
    repeat walk_at "w"
    (rename Fr _ _ _ _ => F13); (rename News _ _ _ _ => N13)
    refine sub_owl (nx n d) N13 (by walk_at "my mem") rfl (by rw [how]; exact nx_lt (by omega) d) (by omega) ?_
    (try dsimp only)
    repeat walk_at "w"
    (rename Fr _ _ _ _ => F14); (rename News _ _ _ _ => N14)
    cases hp1 : ow.getD (pv n d) none with
    | none =>
      rw [hp1] at F14
      dsimp only [owv] at F14 ⊢
      cases hp2 : ow.getD (nx n d) none with
      | none =>
        rw [hp2] at F14
        dsimp only [owv] at F14 ⊢
        walk_at "wi"
        (rename Fr _ _ _ _ => F20); (rename News _ _ _ _ => N20)
        refine' set_owl (ow := ow) (e := ew) d F20 N20 ?uU rfl (by omega) (by omega) ?_
        (case uU => walk_at "my updF")
        intro h21 F21 N21
        (try dsimp only at N21)
        repeat walk_at "w"
        rw [hJ]
        refine ⟨_, _, _, popRest (rlt r) hx, e9, OW, ow.set d (some d), ew, as, bs, eb, oI', oy, oe, vy, ve, tsz, rfl, F21, N21, ?_, ⟨oI1', oI2'⟩, c1, c2, by walk_at "lk", by walk_at "lk", by walk_at "lk", by walk_at "lk", by walk_at "lk", hab, ?_, ⟨by rw [List.length_set]; exact how, on_set hon ?_⟩, by omega, hd1, hd2⟩
        · simp only [List.pairwise_cons, List.mem_cons, List.mem_nil_iff, or_false, forall_eq_or_imp, forall_eq, List.Pairwise.nil, and_true, implies_true, false_implies]; exact dis
        · rw [htake, bruns_snoc hbr]; exact bstep_nn hp1 hp2
        · exact hdn'
      | some c =>
        rw [hp2] at F14
        dsimp only [owv] at F14 ⊢
        walk_at "wi"
        (rename Fr _ _ _ _ => F20); (rename News _ _ _ _ => N20)
        refine' set_owl (ow := ow) (e := ew) d F20 N20 ?uU rfl (by omega) (by omega) ?_
        (case uU => walk_at "my updF")
        intro h21 F21 N21
        (try dsimp only at N21)
        repeat walk_at "w"
        rw [hJ]
        refine ⟨_, _, _, popRest (rlt r) hx, e9, OW, ow.set d (some c), ew, as, bs, eb, oI', oy, oe, vy, ve, tsz, rfl, F21, N21, ?_, ⟨oI1', oI2'⟩, c1, c2, by walk_at "lk", by walk_at "lk", by walk_at "lk", by walk_at "lk", by walk_at "lk", hab, ?_, ⟨by rw [List.length_set]; exact how, on_set hon ?_⟩, by omega, hd1, hd2⟩
        · simp only [List.pairwise_cons, List.mem_cons, List.mem_nil_iff, or_false, forall_eq_or_imp, forall_eq, List.Pairwise.nil, and_true, implies_true, false_implies]; exact dis
        · rw [htake, bruns_snoc hbr]; exact bstep_ns hp1 hp2
        · exact on_get hon hp2
    | some a =>
      rw [hp1] at F14
      dsimp only [owv] at F14 ⊢
      cases hp2 : ow.getD (nx n d) none with
      | none =>
        rw [hp2] at F14
        dsimp only [owv] at F14 ⊢
        walk_at "wi"
        (rename Fr _ _ _ _ => F20); (rename News _ _ _ _ => N20)
        refine' set_owl (ow := ow) (e := ew) d F20 N20 ?uU rfl (by omega) (by omega) ?_
        (case uU => walk_at "my updF")
        intro h21 F21 N21
        (try dsimp only at N21)
        repeat walk_at "w"
        rw [hJ]
        refine ⟨_, _, _, popRest (rlt r) hx, e9, OW, ow.set d (some a), ew, as, bs, eb, oI', oy, oe, vy, ve, tsz, rfl, F21, N21, ?_, ⟨oI1', oI2'⟩, c1, c2, by walk_at "lk", by walk_at "lk", by walk_at "lk", by walk_at "lk", by walk_at "lk", hab, ?_, ⟨by rw [List.length_set]; exact how, on_set hon ?_⟩, by omega, hd1, hd2⟩
        · simp only [List.pairwise_cons, List.mem_cons, List.mem_nil_iff, or_false, forall_eq_or_imp, forall_eq, List.Pairwise.nil, and_true, implies_true, false_implies]; exact dis
        · rw [htake, bruns_snoc hbr]; exact bstep_sn hp1 hp2
        · exact on_get hon hp1
      | some c =>
        rw [hp2] at F14
        dsimp only [owv] at F14 ⊢
        walk_at "wi"
        (rename Fr _ _ _ _ => F15); (rename News _ _ _ _ => N15)
        have han := on_get hon hp1
        have hcn := on_get hon hp2
        refine eq_items_c F15 hIg han hcn (by show A.units + 3 < cLine; omega) ?_
        by_cases hac : a = c
        · subst hac
          rw [decide_eq_true rfl]
          walk_at "wi"
          (rename Fr _ _ _ _ => F20); (rename News _ _ _ _ => N20)
          refine' set_owl (ow := ow) (e := ew) d F20 N20 ?uU rfl (by omega) (by omega) ?_
          (case uU => walk_at "my updF")
          intro h21 F21 N21
          (try dsimp only at N21)
          repeat walk_at "w"
          rw [hJ]
          refine ⟨_, _, _, popRest (rlt r) hx, e9, OW, ow.set d (some a), ew, as, bs, eb, oI', oy, oe, vy, ve, tsz, rfl, F21, N21, ?_, ⟨oI1', oI2'⟩, c1, c2, by walk_at "lk", by walk_at "lk", by walk_at "lk", by walk_at "lk", by walk_at "lk", hab, ?_, ⟨by rw [List.length_set]; exact how, on_set hon ?_⟩, by omega, hd1, hd2⟩
          · simp only [List.pairwise_cons, List.mem_cons, List.mem_nil_iff, or_false, forall_eq_or_imp, forall_eq, List.Pairwise.nil, and_true, implies_true, false_implies]; exact dis
          · rw [htake, bruns_snoc hbr]; exact bstep_ss hp1 hp2
          · exact on_get hon hp1
        · rw [decide_eq_false hac]
          walk_at "wi"
          (rename Fr _ _ _ _ => F16); (rename News _ _ _ _ => N16)
          refine min_pick hh (c := rlt r c a) (fun s' kp E' Q' hq => LtAt.items ((hIg c hcn).keeps fun o e => kp _ _ (F16.keep _ _ e)) ((hIg a han).keeps fun o e => kp _ _ (F16.keep _ _ e)) (by show A.units + 4 < cLine; omega) PG w E' Q' hq) ?_
          intro h17 tk17 kp17
          rw [← apply_ite adr]
          have F17 := F16.keeps kp17
          have N17 := N16.grown kp17
          clear F16 N16
          walk_at "wi"
          (rename Fr _ _ _ _ => F18); (rename News _ _ _ _ => N18)
          rename_i _ oe' de'
          have heln : (if rlt r c a = true then c else a) < n := by split <;> assumption
          generalize hel : (if rlt r c a = true then c else a) = el at *
          refine max_pick hh (c := rlt r a c) (fun s' kp E' Q' hq => GtAt.items ((hIg c hcn).keeps fun o e => kp _ _ (F18.keep _ _ e)) ((hIg a han).keeps fun o e => kp _ _ (F18.keep _ _ e)) (by show A.units + 4 < cLine; omega) PG w E' Q' hq) ?_
          intro h19 tk19 kp19
          rw [← apply_ite adr]
          have F19 := F18.keeps kp19
          have N19 := N18.grown kp19
          clear F18 N18 kp17
          have hyon : (if rlt r a c = true then c else a) < n := by split <;> assumption
          generalize hyo : (if rlt r a c = true then c else a) = yo at *
          walk_at "wi"
          (rename Fr _ _ _ _ => F21); (rename News _ _ _ _ => N21)
          rename_i _ oy' dy' T _ lT
          refine' append_tup (as := as) (e := eb) F21 N21 ?uA (by omega) ?_
          (case uA => walk_at "my updF")
          intro h22 F22 N22
          (try dsimp only at N22)
          clear F21 N21
          walk_at "wi"
          (rename Fr _ _ _ _ => F23); (rename News _ _ _ _ => N23)
          refine' set_owl (ow := ow) (e := ew) d F23 N23 ?uU rfl (by omega) (by omega) ?_
          (case uU => walk_at "my updF")
          intro h24 F24 N24
          (try dsimp only at N24)
          (try clear F23 N23)
          walk_at "wi"
          obtain ⟨led, hled, NL⟩ : ∃ led, led = _ ∧ News g L h24 led := ⟨_, rfl, N24⟩
          have hmO : (OW, listOf (owl adr (ow.set d (some el))).toArray ew) ∈ led := by rw [hled]; walk_at "my mem"
          generalize how1 : ow.set d (some el) = ow1 at *
          have hon1 : ∀ o ∈ ow1, ∀ k, o = some k → k < n := by rw [← how1]; exact on_set hon heln
          have hlw1 : ow1.length = n := by rw [← how1, List.length_set]; exact how
          refine LCg.CompSrc.ledger (k := ew) hh F24 NL hmO (by rw [List.size_toArray, owl_length, sizeLine_eq]; omega) ?_
          intro g'
          refine comp_inv n (fun i ys news => news = led ∧ ys = owl adr ((ow1.take i).map fun x => if x = some yo then some el else x)) ?_ ?_ _ 0 [] _ (by rw [List.size_toArray, owl_length]; omega) ⟨rfl, rfl⟩
          · rintro i' ys news v I2 oI2 C oC D m₂ h2' tk2 E' hi' ⟨rfl, hys⟩ hP hC hx2 F25 N25 off ne
            rw [List.getElem?_toArray, owl_get adr (by omega)] at hP
            replace hP := Option.some.inj hP
            have N26 := N25
            rw [hled] at N26
            cases hwi : ow1.getD i' none with
            | none =>
              rw [hwi] at hP
              dsimp only [owv] at hP
              subst hP
              walk_at "wi"
              (rename Fr _ _ _ _ => F27); (rename News _ _ _ _ => N27)
              refine eq_none_item ((hIg yo hyon).keeps fun o e => F27.keep _ _ e) (by show A.units + 3 < cLine; omega) ?_
              walk_at "wi"
              (rename Fr _ _ _ _ => F28); (rename News _ _ _ _ => N28)
              rw [← hled] at N28
              exact CompEnd.intro F28 N28 news (fun p hp => hp) off (.inr ⟨_, hmO, rfl, _, rfl⟩) ⟨rfl, by rw [hys]; exact owl_take (by omega) (by rw [hwi]; rfl)⟩
            | some k' =>
              rw [hwi] at hP
              dsimp only [owv] at hP
              subst hP
              walk_at "wi"
              (rename Fr _ _ _ _ => F27); (rename News _ _ _ _ => N27)
              refine eq_items_c F27 hIg (on_get hon1 hwi) hyon (by show A.units + 3 < cLine; omega) ?_
              by_cases hky : k' = yo
              · rw [decide_eq_true hky]
                walk_at "wi"
                (rename Fr _ _ _ _ => F28); (rename News _ _ _ _ => N28)
                rw [← hled] at N28
                exact CompEnd.intro F28 N28 news (fun p hp => hp) off (.inr ⟨_, hmO, rfl, _, rfl⟩) ⟨rfl, by rw [hys]; exact owl_take (by omega) (by rw [hwi, if_pos (by rw [hky])]; rfl)⟩
              · rw [decide_eq_false hky]
                walk_at "wi"
                (rename Fr _ _ _ _ => F28); (rename News _ _ _ _ => N28)
                rw [← hled] at N28
                exact CompEnd.intro F28 N28 news (fun p hp => hp) off (.inr ⟨_, hmO, rfl, _, rfl⟩) ⟨rfl, by rw [hys]; exact owl_take (by omega) (by rw [hwi, if_neg (by simpa using hky)]; rfl)⟩
          · rintro ys news ⟨rfl, hys⟩
            unfold LCg.FinA
            intro D' h30 tk30 F30 N30 o30
            rw [hled] at N30 o30
            simp only [LCg.Off1] at o30
            (try dsimp only)
            walk_at "wi"
            (rename Fr _ _ _ _ => F31); (rename News _ _ _ _ => N31)
            rw [List.take_of_length_le (by omega)] at hys
            subst hys
            rw [hJ]
            refine ⟨_, _, _, popRest (rlt r) hx, e9, D', ow1.map (fun x => if x = some yo then some el else x), (owl adr (ow1.map fun x => if x = some yo then some el else x)).length, as ++ [T], bs ++ [(yo, d)], eb + 1, oI', oy', oe', _, _, tsz, rfl, F31, ?_, ?_, ⟨oI1', oI2'⟩, dy', de', by walk_at "lk", by walk_at "lk", by walk_at "lk", by walk_at "lk", by walk_at "lk", by simp [hab], ?_, ⟨by rw [List.length_map]; exact hlw1, on_map hon1 heln⟩, by rw [List.length_append, List.length_singleton]; omega, hd1, hd2⟩
            · intro p hp
              rw [zipT_snoc hab] at hp
              iterate 7 (rcases List.mem_cons.mp hp with rfl | hp; · exact N31 _ (by walk_at "my mem"))
              rcases List.mem_append.mp hp with hp | hp
              · exact N31 p (by repeat (first | with_reducible exact hp | with_reducible refine List.mem_cons_of_mem _ ?_))
              · rw [List.mem_singleton.mp hp]
                have q := N31 (T, ({ cls := .type "tuple", data := .seq #[Value.ref (adr yo), Value.ref (adr d)] } : Obj)) (by walk_at "my mem")
                exact q
            · simp only [List.pairwise_cons, List.mem_cons, List.mem_nil_iff, or_false, forall_eq_or_imp, forall_eq, List.Pairwise.nil, and_true, implies_true, false_implies]
              obtain ⟨o1', o2', o3', o4', o5', o6', o7', o8', _⟩ := o30
              repeat' apply And.intro
              all_goals first | with_reducible assumption | omega
            · rw [htake, bruns_snoc hbr, ← how1, ← hel, ← hyo]
              exact bstep_sm hp1 hp2 hac
  · intro s' h1 tk1 hj hkp
    rw [hJ] at hj
    obtain ⟨h, tk, m, hx, eh, OW, ow, ew, as, bs, eb, oI, oy, oe, vy, ve, tsz, rfl, F6, N6, dis, ⟨oI1, oI2⟩, c1, c2, m1, m2, m3, m4, m5, hab, hbr, ⟨how, hon⟩, hbl, hperm, hhp'⟩ := hj
    (try dsimp only)
    simp only [List.pairwise_cons, List.mem_cons, List.mem_nil_iff, or_false, forall_eq_or_imp, forall_eq, List.Pairwise.nil, and_true, implies_true, false_implies] at dis
    clear F5 N5 F4 N4 F3 N3
    have F7 := frKp F6 hkp (by simpa using hLI) (by simpa using hgI)
    have NB : News g L h1 ((BR, listOf (as.map Value.ref).toArray eb) :: zipT adr as bs) := fun p hp => by
      have hne : ∀ p ∈ (BR, listOf (as.map Value.ref).toArray eb) :: zipT adr as bs, p.1 ≠ I := List.forall_mem_cons.mpr ⟨by k_ne, zipT_ne N6 (List.mem_cons_of_mem _ (List.mem_cons_self)) (NoTup.iter oI1) (fun p hp => by repeat (first | with_reducible exact hp | with_reducible refine List.mem_cons_of_mem _ ?_))⟩
      have hm : p ∈ (H, listOf (refs adr hx).toArray eh) :: (I, oI) :: (Sd, listOf (refs adr ds).toArray es) :: (OW, listOf (owl adr ow).toArray ew) :: (BR, listOf (as.map Value.ref).toArray eb) :: (L + 1 + 1, oy) :: (L + 1, oe) :: zipT adr as bs := by
        rcases List.mem_cons.mp hp with rfl | hp
        · walk_at "my mem"
        · repeat (first | with_reducible exact hp | with_reducible refine List.mem_cons_of_mem _ ?_)
      exact ⟨hkp _ _ (by simpa using hne p hp) (N6 p hm).1, (N6 p hm).2⟩
    have hneH := zipT_ne N6 List.mem_cons_self NoTup.list (fun p hp => by repeat (first | with_reducible exact hp | with_reducible refine List.mem_cons_of_mem _ ?_))
    clear N6
    walk_at "wi"
    (rename Fr _ _ _ _ => F8); (rename News _ _ _ _ => N8)
    rw [← hdl, List.take_length] at hbr
    rw [hdl] at hbr
    have hbb : (bruns (rlt r) n ds).2 = bs := by rw [hbr]
    have hB := N8 (BR, _) (List.mem_cons_self ..)
    refine k _ _ BR eb as ds (fun b o nb e => F8.keep b o (kp b o nb e)) ?_ hRow (by rw [hbb]; exact hab) hB.1 (by rw [hbb]; exact fun p hp => (N8 p (List.mem_cons_of_mem _ hp)).1) ?_
    rotate_left
    · rw [hbb]
      intro p hp
      cases q : s.heap.get? p.1 with
      | none => rfl
      | some o =>
        have := kp p.1 o (by simpa using hneH p hp) q
        rw [(N8 p (List.mem_cons_of_mem _ hp)).2.2] at this
        cases this
    cases q : s.heap.get? BR with
    | none => rfl
    | some o =>
      have := kp BR o (by rw [List.mem_singleton]; exact Ne.symm dis.1.2.2.2.1) q
      rw [hB.2.2] at this
      cases this

theorem law_barsM_c {w : World} {A : Around} {s : Shared} {G : Heap} {R : Result → Shared → Prop} {mean : ExcName → Option Value} {mg mb : Str → Option Value} (S : Sta w G mean mg mb) (st : G.StaysIn s.heap)
   {r : Nat → Int} {n : Nat} {adr : Nat → Addr} {It H : Addr} {xs : List Nat} {e0 e : Nat} (hH : G.get? H = none) (hl : s.heap.get? H = some (listOf (refs adr xs).toArray e)) (hIt : s.heap.get? It = some (listOf (refs adr (List.range n)).toArray e0)) (hne : It ≠ H)
   (h2 : 2 ≤ n) (h64 : n < 64) (hxs : xs.Perm (List.range n)) (hhp : IsHp (rgt r) xs 0) (hI : Its r n adr s.heap) (hroom : A.depth + 3 < recursionLimit) (hunits : A.units + 60 < cLine) (hh : A.handled = none)
   (k : ∀ h' tk B e' as ds, Kp [H] s.heap h' → s.heap.get? B = none → Row (rgt r) n ds → as.length = (bruns (rgt r) n ds).2.length → h'.get? B = some (listOf (as.map Value.ref).toArray e') → (∀ p ∈ zipT adr as (bruns (rgt r) n ds).2, h'.get? p.1 = some p.2) → (∀ p ∈ zipT adr as (bruns (rgt r) n ds).2, s.heap.get? p.1 = none) →
     R (.ok (.ret (.ref B))) { s with heap := h', toks := tk }) :
   codeAny (model PG w) A (.call (.ref 81) ⟨[.ref It, .ref H, .bool false], []⟩) R s := by
  refine' enterC (W := [H]) [(Str.ofString "items", .ref It), (Str.ofString "heap", .ref H), (Str.ofString "rising", .bool false)] S st (by simpa using hH) ?k6 ?k7 (by omega) ?k9 ?kB ?kN ?_ ?c2 ?c3 ?c4
  (case k6 => k_is)
  (case k7 => k_is)
  (case k9 => exact BindsTo.of_eq rfl)
  (case kB => exact rfl)
  (case kN => decide)
  (case c2 => exact rfl)
  (case c3 => exact rfl)
  (case c4 => exact rfl)
  intro g L h₁ tk cells kp hg kk F NC Y sg X' T'
  have hY := PyProof.Rows.CellsAre.two Y
  obtain ⟨o1, o2, hE, d1, d2⟩ := hY
  subst hE
  clear Y
  have d1' : o1.data = .cell none := d1
  have d2' : o2.data = .cell none := d2
  clear d1 d2
  have F0 : Fr g L h₁ (fun y => if y = Str.ofString "rising" then some (.bool false) else if y = Str.ofString "heap" then some (.ref H) else if y = Str.ofString "items" then some (.ref It) else none) := F
  clear F
  have hHL : @LT.lt Nat _ H L := (kk _ _ hl).2
  have hItL : @LT.lt Nat _ It L := (kk _ _ hIt).2
  have N0 : News g L h₁ [(H, listOf (refs adr xs).toArray e), (L + 1 + 1, o1), (L + 1, o2)] := fun p hp => by
    rcases List.mem_cons.mp hp with rfl | hp
    · exact ⟨(kk _ _ hl).1, Nat.ne_of_lt (kk _ _ hl).2, hg _ (by simp)⟩
    · exact NC p hp
  clear NC
  have hIg : Its r n adr g := hI.kp hl kp
  have hItg : g.get? It = some (listOf (refs adr (List.range n)).toArray e0) := kp _ _ (by simpa using hne) hIt
  have hItl : g.IsList It (refs adr (List.range n)).toArray := ⟨_, hItg, rfl, _, rfl⟩
  have hlen : xs.length = n := by rw [hxs.length_eq, List.length_range]
  have hxn : ∀ k ∈ xs, k < n := fun k hk => List.mem_range.mp (hxs.subset hk)
  clear kk
  try dsimp only
  repeat walk_at "w"
  refine len_old F0 hItg (by rw [List.length_range]; omega) ?_
  rw [List.length_range]
  (try dsimp only)
  repeat walk_at "w"
  (rename Fr _ _ _ _ => F1); (rename News _ _ _ _ => N1)
  refine mul_none F1 N1 (List.mem_cons_self ..) (by omega) ?_
  intro OW h1' F2 N2 lOW
  have lOW' := allLt_of lOW
  simp only [AllLt, and_true] at lOW'
  clear lOW
  repeat walk_at "w"
  (rename Fr _ _ _ _ => F3); (rename News _ _ _ _ => N3)
  rename_i BR _ lBR _
  refine wpAny_For ?_ (by intro _; with_unfolding_all rfl)
  repeat walk_at "w"
  (try dsimp only)
  refine sort_items (b := true) F3 N3 hItg hIg h64 ?_
  intro ds Sd h4 es hRow F4 N4 lSd
  have lSd' := allLt_of lSd
  simp only [AllLt, and_true] at lSd'
  clear lSd
  (try dsimp only)
  replace hRow : Row (rgt r) n ds := by simpa using hRow
  have hSl := PySem.IsL.isList (N4 _ (List.mem_cons_self ..)).1
  refine wpAny_pyIter_list hSl ?_
  (try dsimp only)
  have F5 := F4.push (liObj Sd 0)
  have N5 := N4.push F4 (liObj Sd 0)
  have hgI := F4.fresh
  have hLI := Nat.ne_of_lt F4.ns.lt
  have hSz : ∀ {p : Addr} {o : Obj}, h4.get? p = some o → @LT.lt Nat _ p h4.objs.size := fun e => Heap.lt_size e
  have ltS := hSz (N4 _ (List.mem_cons_self ..)).1
  have ltG' := ltAll N4
  simp only [AllLt, and_true] at ltG'
  generalize hIa : h4.objs.size = I at F5 N5 hgI hLI ltS ltG' ⊢
  have hpush : ∀ b o, h4.get? b = some o → (h4.push (liObj Sd 0)).get? b = some o := fun b o e => Heap.get?_push_of_some _ e
  rw [owl_rep adr n] at N5
  have hdl : ds.length = n := by rw [hRow.perm.length_eq, List.length_range]
  have hdn : ∀ k ∈ ds, k < n := fun k hk => List.mem_range.mp (hRow.perm.subset hk)
  obtain ⟨J, hJ⟩ : ∃ J : Nat → Shared → Prop, J = (fun i s' => ∃ h tk m hx eh OW ow ew as bs eb oI oy oe vy ve tsz, s' = { s with heap := h, toks := tk } ∧ Fr g L h m ∧
      News g L h ((H, listOf (refs adr hx).toArray eh) :: (I, oI) :: (Sd, listOf (refs adr ds).toArray es) :: (OW, listOf (owl adr ow).toArray ew) :: (BR, listOf (as.map Value.ref).toArray eb) :: (L + 1 + 1, oy) :: (L + 1, oe) :: zipT adr as bs) ∧
      ([H, I, Sd, OW, BR, L + 1 + 1, L + 1] : List Nat).Pairwise (fun a b => a ≠ b) ∧ (oI.cls = .type "list_iterator" ∧ oI.data = .fields #[.ref Sd, .int (i : Nat) 0]) ∧ oy.data = .cell vy ∧ oe.data = .cell ve ∧
      m (Str.ofString "heap") = some (.ref H) ∧ m (Str.ofString "rising") = some (.bool false) ∧ m (Str.ofString "size") = some (.int (n : Nat) tsz) ∧ m (Str.ofString "owner") = some (.ref OW) ∧ m (Str.ofString "bars") = some (.ref BR) ∧
      as.length = bs.length ∧ bruns (rgt r) n (ds.take i) = (ow, bs) ∧ (ow.length = n ∧ ∀ o ∈ ow, ∀ k, o = some k → k < n) ∧ bs.length ≤ i ∧ hx.Perm (ds.drop i) ∧ IsHp (rgt r) hx 0) := ⟨_, rfl⟩
  refine for_walks (walks_refs (A := A.deeper _) (adr := adr) (xs := ds) (n := n) hh (Nat.ne_of_lt ltS) hdl) J ?_ ?_ ?_ ?_
  · rw [hJ]
    refine ⟨_, _, _, xs, e, OW, List.replicate n none, 0, [], [], 0, liObj Sd 0, o1, o2, none, none, _, rfl, F5, ?_, ?_, ⟨rfl, rfl⟩, d1', d2', by walk_at "lk", by walk_at "lk", by walk_at "lk", by walk_at "lk", by walk_at "lk", rfl, by rw [List.take_zero]; rfl, ⟨by simp, fun o ho k e => by rw [List.eq_of_mem_replicate ho] at e; cases e⟩, Nat.le_refl _, by rw [List.drop_zero]; exact hxs.trans hRow.perm.symm, hhp⟩
    · intro p hp
      iterate 7 (rcases List.mem_cons.mp hp with rfl | hp; · first | exact N5 _ (by walk_at "my mem") | (have q := N5 (BR, listOf #[] 0) (by walk_at "my mem"); exact q))
      exact absurd hp (by simp [zipT])
    · simp only [List.pairwise_cons, List.mem_cons, List.mem_nil_iff, or_false, forall_eq_or_imp, forall_eq, List.Pairwise.nil, and_true, implies_true, false_implies]
      repeat' apply And.intro
      all_goals omega
  · intro i s' hj
    rw [hJ] at hj
    obtain ⟨h, tk, m, hx, eh, OW, ow, ew, as, bs, eb, oI, oy, oe, vy, ve, tsz, rfl, F6, N6, dis, ⟨oI1, oI2⟩, _⟩ := hj
    exact ⟨⟨oI, (N6 (I, oI) (by walk_at "my mem")).1, oI1, oI2⟩, PySem.IsL.isList (N6 (Sd, _) (by walk_at "my mem")).1⟩
  · intro i s' v h1 tk1 hi hj hv hst hkp
    subst hv
    rw [hJ] at hj
    obtain ⟨h, tk, m, hx, eh, OW, ow, ew, as, bs, eb, oI, oy, oe, vy, ve, tsz, rfl, F6, N6, dis, ⟨oI1, oI2⟩, c1, c2, m1, m2, m3, m4, m5, hab, hbr, ⟨how, hon⟩, hbl, hperm, hhp'⟩ := hj
    clear F5 N5 F4 N4 F3 N3
    (try dsimp only)
    obtain ⟨⟨oI', hoI, oI1', oI2'⟩, _⟩ := hst
    simp only [List.pairwise_cons, List.mem_cons, List.mem_nil_iff, or_false, forall_eq_or_imp, forall_eq, List.Pairwise.nil, and_true, implies_true, false_implies] at dis
    have F7 := frKp F6 hkp (by simpa using hLI) (by simpa using hgI)
    have N7 := news_second N6 hkp hoI (by k_ne) (by walk_at "my all")
    clear N6 F6
    repeat walk_at "w"
    first | rw [if_pos rfl] | rw [if_neg Bool.false_ne_true]
    repeat walk_at "w"
    (rename Fr _ _ _ _ => F8); (rename News _ _ _ _ => N8)
    have hdrop : ds.drop i = ds.getD i 0 :: ds.drop (i + 1) := by
      rw [List.drop_eq_getElem_cons (by omega), List.getD_eq_getElem?_getD, List.getElem?_eq_getElem (by omega)]; rfl
    have htake : ds.take (i + 1) = ds.take i ++ [ds.getD i 0] := by
      rw [List.take_add_one, List.getD_eq_getElem?_getD, List.getElem?_eq_getElem (by omega)]; rfl
    have hdn' : ds.getD i 0 < n := hdn _ (getD_mem (by omega))
    have hhxn : ∀ k ∈ hx, k < n := fun k hk => hdn k (List.drop_subset _ _ (hperm.subset hk))
    have hhl : hx.length = n - i := by rw [hperm.length_eq, List.length_drop, hdl]
    rw [hdrop] at hperm
    have hsd : (ds.getD i 0 :: ds.drop (i + 1)).Pairwise (fun a b => rgt r a b = true) := by rw [← hdrop]; exact hRow.sorted.sublist (List.drop_sublist _ _)
    obtain ⟨hd0, hd1, hd2⟩ := pop_spec (rlt_so r).flip hhp' hperm hsd
    refine ⟨X'.keeps F8.keep, ?_⟩
    (try dsimp only [List.nil_append, List.cons_append])
    refine wpAny_call ?_
    refine' heappopM_c S ?st hH ?hl ?hne ?hf ?hI ?hx ?hr ?hu ?k
    (case st => exact fun b o e => F8.keep _ _ (sg b o e))
    (case hl => exact (N8 _ (List.mem_cons_self ..)).1)
    (case hne => omega)
    (case hf => omega)
    (case hI => exact hIg.keeps F8.keep)
    (case hx => exact hhxn)
    (case hr => show A.depth + 1 + 2 < _; omega)
    (case hu => show A.units + 3 + 30 < _; omega)
    intro h9 tk9 e9 kp9 hl9
    (try dsimp only)
    have F9 := frKp F8 kp9 (by simpa using Nat.ne_of_gt hHL) hg
    have N9 := news_first N8 kp9 hl9 (by walk_at "my all")
    clear N8 F8
    (try clear N7)
    (try clear F7)
    rw [hd0]
    have hdI : Item g (adr (ds.getD i 0)) (r (ds.getD i 0)) (ds.getD i 0) := hIg _ hdn'
    generalize hdd : ds.getD i 0 = d at *
    repeat walk_at "w"
    (rename Fr _ _ _ _ => F10); (rename News _ _ _ _ => N10)
    refine ne_same (hdI.keeps (F10.keep _)) (by show A.units + 3 < cLine; omega) ?_
    repeat walk_at "w"
    first | rw [if_neg Bool.false_ne_true] | rw [if_pos rfl]
    repeat walk_at "w"
    (rename Fr _ _ _ _ => F11); (rename News _ _ _ _ => N11)
    refine sub_item1 (hdI.keeps (F11.keep _)) ?_
    intro ud
    (try dsimp only)
    repeat walk_at "w"
    refine mod_int' (by omega) ?_
    rw [pv_int h2 hdn']
    (try dsimp only)
    repeat walk_at "w"
    (rename Fr _ _ _ _ => F12); (rename News _ _ _ _ => N12)
    refine sub_owl (pv n d) N12 (by walk_at "my mem") rfl (by rw [how]; exact pv_lt (by omega) d) (by omega) ?_
    (try dsimp only)
    repeat walk_at "w"
    refine mod_int' (by omega) ?_
    rw [nx_int h2]
    (try dsimp only)
    repeat walk_at "w"
    (rename Fr _ _ _ _ => F13); (rename News _ _ _ _ => N13)
    refine sub_owl (nx n d) N13 (by walk_at "my mem") rfl (by rw [how]; exact nx_lt (by omega) d) (by omega) ?_
    (try dsimp only)
    repeat walk_at "w"
    (rename Fr _ _ _ _ => F14); (rename News _ _ _ _ => N14)
    cases hp1 : ow.getD (pv n d) none with
    | none =>
      rw [hp1] at F14
      dsimp only [owv] at F14 ⊢
      cases hp2 : ow.getD (nx n d) none with
      | none =>
        rw [hp2] at F14
        dsimp only [owv] at F14 ⊢
        walk_at "wi"
        (rename Fr _ _ _ _ => F20); (rename News _ _ _ _ => N20)
        refine' set_owl (ow := ow) (e := ew) d F20 N20 ?uU rfl (by omega) (by omega) ?_
        (case uU => walk_at "my updF")
        intro h21 F21 N21
        (try dsimp only at N21)
        repeat walk_at "w"
        rw [hJ]
        refine ⟨_, _, _, popRest (rgt r) hx, e9, OW, ow.set d (some d), ew, as, bs, eb, oI', oy, oe, vy, ve, tsz, rfl, F21, N21, ?_, ⟨oI1', oI2'⟩, c1, c2, by walk_at "lk", by walk_at "lk", by walk_at "lk", by walk_at "lk", by walk_at "lk", hab, ?_, ⟨by rw [List.length_set]; exact how, on_set hon ?_⟩, by omega, hd1, hd2⟩
        · simp only [List.pairwise_cons, List.mem_cons, List.mem_nil_iff, or_false, forall_eq_or_imp, forall_eq, List.Pairwise.nil, and_true, implies_true, false_implies]; exact dis
        · rw [htake, bruns_snoc hbr]; exact bstep_nn hp1 hp2
        · exact hdn'
      | some c =>
        rw [hp2] at F14
        dsimp only [owv] at F14 ⊢
        walk_at "wi"
        (rename Fr _ _ _ _ => F20); (rename News _ _ _ _ => N20)
        refine' set_owl (ow := ow) (e := ew) d F20 N20 ?uU rfl (by omega) (by omega) ?_
        (case uU => walk_at "my updF")
        intro h21 F21 N21
        (try dsimp only at N21)
        repeat walk_at "w"
        rw [hJ]
        refine ⟨_, _, _, popRest (rgt r) hx, e9, OW, ow.set d (some c), ew, as, bs, eb, oI', oy, oe, vy, ve, tsz, rfl, F21, N21, ?_, ⟨oI1', oI2'⟩, c1, c2, by walk_at "lk", by walk_at "lk", by walk_at "lk", by walk_at "lk", by walk_at "lk", hab, ?_, ⟨by rw [List.length_set]; exact how, on_set hon ?_⟩, by omega, hd1, hd2⟩
        · simp only [List.pairwise_cons, List.mem_cons, List.mem_nil_iff, or_false, forall_eq_or_imp, forall_eq, List.Pairwise.nil, and_true, implies_true, false_implies]; exact dis
        · rw [htake, bruns_snoc hbr]; exact bstep_ns hp1 hp2
        · exact on_get hon hp2
    | some a =>
      rw [hp1] at F14
      dsimp only [owv] at F14 ⊢
      cases hp2 : ow.getD (nx n d) none with
      | none =>
        rw [hp2] at F14
        dsimp only [owv] at F14 ⊢
        walk_at "wi"
        (rename Fr _ _ _ _ => F20); (rename News _ _ _ _ => N20)
        refine' set_owl (ow := ow) (e := ew) d F20 N20 ?uU rfl (by omega) (by omega) ?_
        (case uU => walk_at "my updF")
        intro h21 F21 N21
        (try dsimp only at N21)
        repeat walk_at "w"
        rw [hJ]
        refine ⟨_, _, _, popRest (rgt r) hx, e9, OW, ow.set d (some a), ew, as, bs, eb, oI', oy, oe, vy, ve, tsz, rfl, F21, N21, ?_, ⟨oI1', oI2'⟩, c1, c2, by walk_at "lk", by walk_at "lk", by walk_at "lk", by walk_at "lk", by walk_at "lk", hab, ?_, ⟨by rw [List.length_set]; exact how, on_set hon ?_⟩, by omega, hd1, hd2⟩
        · simp only [List.pairwise_cons, List.mem_cons, List.mem_nil_iff, or_false, forall_eq_or_imp, forall_eq, List.Pairwise.nil, and_true, implies_true, false_implies]; exact dis
        · rw [htake, bruns_snoc hbr]; exact bstep_sn hp1 hp2
        · exact on_get hon hp1
      | some c =>
        rw [hp2] at F14
        dsimp only [owv] at F14 ⊢
        walk_at "wi"
        (rename Fr _ _ _ _ => F15); (rename News _ _ _ _ => N15)
        have han := on_get hon hp1
        have hcn := on_get hon hp2
        refine eq_items_c F15 hIg han hcn (by show A.units + 3 < cLine; omega) ?_
        by_cases hac : a = c
        · subst hac
          rw [decide_eq_true rfl]
          walk_at "wi"
          (rename Fr _ _ _ _ => F20); (rename News _ _ _ _ => N20)
          refine' set_owl (ow := ow) (e := ew) d F20 N20 ?uU rfl (by omega) (by omega) ?_
          (case uU => walk_at "my updF")
          intro h21 F21 N21
          (try dsimp only at N21)
          repeat walk_at "w"
          rw [hJ]
          refine ⟨_, _, _, popRest (rgt r) hx, e9, OW, ow.set d (some a), ew, as, bs, eb, oI', oy, oe, vy, ve, tsz, rfl, F21, N21, ?_, ⟨oI1', oI2'⟩, c1, c2, by walk_at "lk", by walk_at "lk", by walk_at "lk", by walk_at "lk", by walk_at "lk", hab, ?_, ⟨by rw [List.length_set]; exact how, on_set hon ?_⟩, by omega, hd1, hd2⟩
          · simp only [List.pairwise_cons, List.mem_cons, List.mem_nil_iff, or_false, forall_eq_or_imp, forall_eq, List.Pairwise.nil, and_true, implies_true, false_implies]; exact dis
          · rw [htake, bruns_snoc hbr]; exact bstep_ss hp1 hp2
          · exact on_get hon hp1
        · rw [decide_eq_false hac]
          walk_at "wi"
          (rename Fr _ _ _ _ => F16); (rename News _ _ _ _ => N16)
          refine max_pick hh (c := rgt r c a) (fun s' kp E' Q' hq => GtAt.items ((hIg c hcn).keeps fun o e => kp _ _ (F16.keep _ _ e)) ((hIg a han).keeps fun o e => kp _ _ (F16.keep _ _ e)) (by show A.units + 4 < cLine; omega) PG w E' Q' hq) ?_
          intro h17 tk17 kp17
          rw [← apply_ite adr]
          have F17 := F16.keeps kp17
          have N17 := N16.grown kp17
          clear F16 N16
          walk_at "wi"
          (rename Fr _ _ _ _ => F18); (rename News _ _ _ _ => N18)
          rename_i _ oe' de'
          have heln : (if rgt r c a = true then c else a) < n := by split <;> assumption
          generalize hel : (if rgt r c a = true then c else a) = el at *
          refine min_pick hh (c := rgt r a c) (fun s' kp E' Q' hq => LtAt.items ((hIg c hcn).keeps fun o e => kp _ _ (F18.keep _ _ e)) ((hIg a han).keeps fun o e => kp _ _ (F18.keep _ _ e)) (by show A.units + 4 < cLine; omega) PG w E' Q' hq) ?_
          intro h19 tk19 kp19
          rw [← apply_ite adr]
          have F19 := F18.keeps kp19
          have N19 := N18.grown kp19
          clear F18 N18 kp17
          have hyon : (if rgt r a c = true then c else a) < n := by split <;> assumption
          generalize hyo : (if rgt r a c = true then c else a) = yo at *
          walk_at "wi"
          (rename Fr _ _ _ _ => F21); (rename News _ _ _ _ => N21)
          rename_i _ oy' dy' T _ lT
          refine' append_tup (as := as) (e := eb) F21 N21 ?uA (by omega) ?_
          (case uA => walk_at "my updF")
          intro h22 F22 N22
          (try dsimp only at N22)
          clear F21 N21
          walk_at "wi"
          (rename Fr _ _ _ _ => F23); (rename News _ _ _ _ => N23)
          refine' set_owl (ow := ow) (e := ew) d F23 N23 ?uU rfl (by omega) (by omega) ?_
          (case uU => walk_at "my updF")
          intro h24 F24 N24
          (try dsimp only at N24)
          (try clear F23 N23)
          walk_at "wi"
          obtain ⟨led, hled, NL⟩ : ∃ led, led = _ ∧ News g L h24 led := ⟨_, rfl, N24⟩
          have hmO : (OW, listOf (owl adr (ow.set d (some el))).toArray ew) ∈ led := by rw [hled]; walk_at "my mem"
          generalize how1 : ow.set d (some el) = ow1 at *
          have hon1 : ∀ o ∈ ow1, ∀ k, o = some k → k < n := by rw [← how1]; exact on_set hon heln
          have hlw1 : ow1.length = n := by rw [← how1, List.length_set]; exact how
          refine LCg.CompSrc.ledger (k := ew) hh F24 NL hmO (by rw [List.size_toArray, owl_length, sizeLine_eq]; omega) ?_
          intro g'
          refine comp_inv n (fun i ys news => news = led ∧ ys = owl adr ((ow1.take i).map fun x => if x = some yo then some el else x)) ?_ ?_ _ 0 [] _ (by rw [List.size_toArray, owl_length]; omega) ⟨rfl, rfl⟩
          · rintro i' ys news v I2 oI2 C oC D m₂ h2' tk2 E' hi' ⟨rfl, hys⟩ hP hC hx2 F25 N25 off ne
            rw [List.getElem?_toArray, owl_get adr (by omega)] at hP
            replace hP := Option.some.inj hP
            have N26 := N25
            rw [hled] at N26
            cases hwi : ow1.getD i' none with
            | none =>
              rw [hwi] at hP
              dsimp only [owv] at hP
              subst hP
              walk_at "wi"
              (rename Fr _ _ _ _ => F27); (rename News _ _ _ _ => N27)
              refine eq_none_item ((hIg yo hyon).keeps fun o e => F27.keep _ _ e) (by show A.units + 3 < cLine; omega) ?_
              walk_at "wi"
              (rename Fr _ _ _ _ => F28); (rename News _ _ _ _ => N28)
              rw [← hled] at N28
              exact CompEnd.intro F28 N28 news (fun p hp => hp) off (.inr ⟨_, hmO, rfl, _, rfl⟩) ⟨rfl, by rw [hys]; exact owl_take (by omega) (by rw [hwi]; rfl)⟩
            | some k' =>
              rw [hwi] at hP
              dsimp only [owv] at hP
              subst hP
              walk_at "wi"
              (rename Fr _ _ _ _ => F27); (rename News _ _ _ _ => N27)
              refine eq_items_c F27 hIg (on_get hon1 hwi) hyon (by show A.units + 3 < cLine; omega) ?_
              by_cases hky : k' = yo
              · rw [decide_eq_true hky]
                walk_at "wi"
                (rename Fr _ _ _ _ => F28); (rename News _ _ _ _ => N28)
                rw [← hled] at N28
                exact CompEnd.intro F28 N28 news (fun p hp => hp) off (.inr ⟨_, hmO, rfl, _, rfl⟩) ⟨rfl, by rw [hys]; exact owl_take (by omega) (by rw [hwi, if_pos (by rw [hky])]; rfl)⟩
              · rw [decide_eq_false hky]
                walk_at "wi"
                (rename Fr _ _ _ _ => F28); (rename News _ _ _ _ => N28)
                rw [← hled] at N28
                exact CompEnd.intro F28 N28 news (fun p hp => hp) off (.inr ⟨_, hmO, rfl, _, rfl⟩) ⟨rfl, by rw [hys]; exact owl_take (by omega) (by rw [hwi, if_neg (by simpa using hky)]; rfl)⟩
          · rintro ys news ⟨rfl, hys⟩
            unfold LCg.FinA
            intro D' h30 tk30 F30 N30 o30
            rw [hled] at N30 o30
            simp only [LCg.Off1] at o30
            (try dsimp only)
            walk_at "wi"
            (rename Fr _ _ _ _ => F31); (rename News _ _ _ _ => N31)
            rw [List.take_of_length_le (by omega)] at hys
            subst hys
            rw [hJ]
            refine ⟨_, _, _, popRest (rgt r) hx, e9, D', ow1.map (fun x => if x = some yo then some el else x), (owl adr (ow1.map fun x => if x = some yo then some el else x)).length, as ++ [T], bs ++ [(yo, d)], eb + 1, oI', oy', oe', _, _, tsz, rfl, F31, ?_, ?_, ⟨oI1', oI2'⟩, dy', de', by walk_at "lk", by walk_at "lk", by walk_at "lk", by walk_at "lk", by walk_at "lk", by simp [hab], ?_, ⟨by rw [List.length_map]; exact hlw1, on_map hon1 heln⟩, by rw [List.length_append, List.length_singleton]; omega, hd1, hd2⟩
            · intro p hp
              rw [zipT_snoc hab] at hp
              iterate 7 (rcases List.mem_cons.mp hp with rfl | hp; · exact N31 _ (by walk_at "my mem"))
              rcases List.mem_append.mp hp with hp | hp
              · exact N31 p (by repeat (first | with_reducible exact hp | with_reducible refine List.mem_cons_of_mem _ ?_))
              · rw [List.mem_singleton.mp hp]
                have q := N31 (T, ({ cls := .type "tuple", data := .seq #[Value.ref (adr yo), Value.ref (adr d)] } : Obj)) (by walk_at "my mem")
                exact q
            · simp only [List.pairwise_cons, List.mem_cons, List.mem_nil_iff, or_false, forall_eq_or_imp, forall_eq, List.Pairwise.nil, and_true, implies_true, false_implies]
              obtain ⟨o1', o2', o3', o4', o5', o6', o7', o8', _⟩ := o30
              repeat' apply And.intro
              all_goals first | with_reducible assumption | omega
            · rw [htake, bruns_snoc hbr, ← how1, ← hel, ← hyo]
              exact bstep_sm hp1 hp2 hac
  · intro s' h1 tk1 hj hkp
    rw [hJ] at hj
    obtain ⟨h, tk, m, hx, eh, OW, ow, ew, as, bs, eb, oI, oy, oe, vy, ve, tsz, rfl, F6, N6, dis, ⟨oI1, oI2⟩, c1, c2, m1, m2, m3, m4, m5, hab, hbr, ⟨how, hon⟩, hbl, hperm, hhp'⟩ := hj
    (try dsimp only)
    simp only [List.pairwise_cons, List.mem_cons, List.mem_nil_iff, or_false, forall_eq_or_imp, forall_eq, List.Pairwise.nil, and_true, implies_true, false_implies] at dis
    clear F5 N5 F4 N4 F3 N3
    have F7 := frKp F6 hkp (by simpa using hLI) (by simpa using hgI)
    have NB : News g L h1 ((BR, listOf (as.map Value.ref).toArray eb) :: zipT adr as bs) := fun p hp => by
      have hne : ∀ p ∈ (BR, listOf (as.map Value.ref).toArray eb) :: zipT adr as bs, p.1 ≠ I := List.forall_mem_cons.mpr ⟨by k_ne, zipT_ne N6 (List.mem_cons_of_mem _ (List.mem_cons_self)) (NoTup.iter oI1) (fun p hp => by repeat (first | with_reducible exact hp | with_reducible refine List.mem_cons_of_mem _ ?_))⟩
      have hm : p ∈ (H, listOf (refs adr hx).toArray eh) :: (I, oI) :: (Sd, listOf (refs adr ds).toArray es) :: (OW, listOf (owl adr ow).toArray ew) :: (BR, listOf (as.map Value.ref).toArray eb) :: (L + 1 + 1, oy) :: (L + 1, oe) :: zipT adr as bs := by
        rcases List.mem_cons.mp hp with rfl | hp
        · walk_at "my mem"
        · repeat (first | with_reducible exact hp | with_reducible refine List.mem_cons_of_mem _ ?_)
      exact ⟨hkp _ _ (by simpa using hne p hp) (N6 p hm).1, (N6 p hm).2⟩
    have hneH := zipT_ne N6 List.mem_cons_self NoTup.list (fun p hp => by repeat (first | with_reducible exact hp | with_reducible refine List.mem_cons_of_mem _ ?_))
    clear N6
    walk_at "wi"
    (rename Fr _ _ _ _ => F8); (rename News _ _ _ _ => N8)
    rw [← hdl, List.take_length] at hbr
    rw [hdl] at hbr
    have hbb : (bruns (rgt r) n ds).2 = bs := by rw [hbr]
    have hB := N8 (BR, _) (List.mem_cons_self ..)
    refine k _ _ BR eb as ds (fun b o nb e => F8.keep b o (kp b o nb e)) ?_ hRow (by rw [hbb]; exact hab) hB.1 (by rw [hbb]; exact fun p hp => (N8 p (List.mem_cons_of_mem _ hp)).1) ?_
    rotate_left
    · rw [hbb]
      intro p hp
      cases q : s.heap.get? p.1 with
      | none => rfl
      | some o =>
        have := kp p.1 o (by simpa using hneH p hp) q
        rw [(N8 p (List.mem_cons_of_mem _ hp)).2.2] at this
        cases this
    cases q : s.heap.get? BR with
    | none => rfl
    | some o =>
      have := kp BR o (by rw [List.mem_singleton]; exact Ne.symm dis.1.2.2.2.1) q
      rw [hB.2.2] at this
      cases this
end Mine
end

section
open PySem PySem.W PyProof.Rows PySem.Calls PySem.SeqAt
set_option Elab.async false
set_option linter.unusedVariables false
set_option maxRecDepth 100000
set_option maxHeartbeats 8000000
namespace Mine
open LCg LCt
local macro_rules | `(tactic| walk_at "lk") => `(tactic| first | with_reducible assumption | ((try dsimp only); with_reducible refine lkY ?_; with_reducible exact rfl) | ((try dsimp only); with_reducible refine lkN (by decide) ?_; walk_at "lk") | exact rfl)
local macro_rules | `(tactic| walk_at "eval Name") => `(tactic| (k_here; k_dflt (refine' nameX_L ?F ?v ?_ ?a ?b; (case F => with_reducible assumption); (case a => rfl); (case b => rfl); (case v => walk_at "lk"); k_whole)))
local macro_rules | `(tactic| walk_at "w") => `(tactic| ((try dsimp only); (with_reducible show wpAny _ _ _ _ _ _); (fail_if_success (with_reducible show wpAny _ _ (exec (Stmt.While _ _ _ _) _) _ _ _)); (fail_if_success (with_reducible show wpAny _ _ (exec (Stmt.For _ _ _ _ _) _) _ _ _)); (fail_if_success (with_reducible show wpAny _ _ (subscriptTail _ _ (Value.ref _) _) _ _ _)); (fail_if_success (with_reducible show wpAny _ _ (setItem (Value.ref _) _ _) _ _ _)); (fail_if_success (with_reducible show wpAny _ _ (binaryOp Operator.Mult (Value.ref _) _) _ _ _)); (fail_if_success (with_reducible show wpAny _ _ (binaryOp Operator.Mod _ _) _ _ _)); (fail_if_success (with_reducible show wpAny _ _ (call (Value.builtin "list.append") _ _) _ _ _)); (fail_if_success (with_reducible show wpAny _ _ (call (Value.builtin "sorted") _ _) _ _ _)); (fail_if_success (with_reducible show wpAny _ _ (call (Value.builtin "min") _ _) _ _ _)); (fail_if_success (with_reducible show wpAny _ _ (call (Value.builtin "max") _ _) _ _ _)); (fail_if_success (with_reducible show wpAny _ _ (eqBool (Value.ref _) _) _ _ _)); (fail_if_success (with_reducible show wpAny _ _ (eval (Expr.ListComp _ _ _ _) _) _ _ _)); (fail_if_success (with_reducible show wpAny _ _ (compareOp _ (Value.ref _) (Value.ref _)) _ _ _)); (fail_if_success (with_reducible show wpAny _ _ (call (Value.ref _) _ _) _ _ _)); walk1; (try dsimp only)))
local macro_rules | `(tactic| walk_at "ws") => `(tactic| repeat ((fail_if_success (with_reducible show wpAny _ _ (storeName _ _ _) _ _ _)); walk_at "w"))
local macro_rules | `(tactic| walk_at "call builtin:len") => `(tactic| ((with_reducible refine len_refs (by with_reducible assumption) ?_ ?_); (omega)))


local macro_rules | `(tactic| walk_at "my mem") => `(tactic| first | with_reducible exact List.mem_cons_self | (with_reducible refine List.mem_cons_of_mem _ ?_; walk_at "my mem"))
local macro_rules | `(tactic| walk_at "my all") => `(tactic| first
  | ((with_reducible refine List.forall_mem_cons.mpr ⟨?_, ?_⟩); (focus k_ne); walk_at "my all")
  | with_reducible exact List.forall_mem_nil _
  | ((with_reducible refine' zipT_ne ?zN ?zm ?zk ?zs); (case zN => with_reducible assumption); (case zm => walk_at "my mem"); (case zk => first | with_reducible exact NoTup.list | exact NoTup.iter (by with_reducible assumption) | exact NoTup.cell (by with_reducible assumption)); (case zs => (intro p hp; repeat (first | with_reducible exact hp | with_reducible refine List.mem_cons_of_mem _ ?_)))))
local macro_rules | `(tactic| walk_at "my updF") => `(tactic| first | ((with_reducible refine' UpdF.head ?ha); (case ha => walk_at "my all")) | ((with_reducible refine' UpdF.tail ?ta ?tb); (case ta => k_ne); (case tb => walk_at "my updF")))
local macro_rules | `(tactic| walk_at "storeName") => `(tactic| (k_here; k_dflt (refine' storeX_C ?F ?N ?c ?U ?d ?_ ?a ?b; (case b => rfl); (case a => rfl); (case F => with_reducible assumption); (case N => with_reducible assumption); (case c => rfl); (case U => walk_at "my updF"); (case d => with_reducible assumption); k_whole; intro h' o' F' N' d'; (try dsimp only at N'); (try k_sweep))))

local macro_rules | `(tactic| walk_at "ifs") => `(tactic| first | with_reducible refine Eq.mpr (if_pos rfl) ?_ | with_reducible refine Eq.mpr (if_neg Bool.false_ne_true) ?_ | with_reducible refine Eq.mpr (if_neg (show ¬ ((!true) = true) by decide)) ?_ | with_reducible refine Eq.mpr (if_pos (show (!false) = true by decide)) ?_)
local macro_rules | `(tactic| walk_at "wi") => `(tactic| repeat (first | walk_at "w" | walk_at "ifs"))

theorem fillWF (w : World) (s : Shared) (A : Around) (h : (hd.heap_39 w.params).In s.heap → wpAny (model Challenge.rw_dj5012_01.row.prog w) A (pure ()) (fun _ _ => True) (fun _ _ => False) s) :
   (hd.heap_39 w.params).In s.heap → wpAny (model Challenge.rw_dj5012_01.row.prog w) A (pure ()) (fun _ _ => True) (fun _ _ => False) s := by
  k_fill
  exact h

theorem law_from_c {w : World} {A : Around} {s : Shared} {G : Heap} {R : Result → Shared → Prop} {mean : ExcName → Option Value} {mg mb : Str → Option Value} (S : Sta w G mean mg mb) (st : G.StaysIn s.heap)
   {r : Nat → Int} {n : Nat} {adr : Nat → Addr} {It : Addr} {e0 : Nat} (hIt : s.heap.get? It = some (listOf (refs adr (List.range n)).toArray e0))
   (h2 : 2 ≤ n) (h64 : n < 64) (hI : Its r n adr s.heap) (hroom : A.depth + 4 < recursionLimit) (hunits : A.units + 70 < cLine) (hh : A.handled = none)
   (k : ∀ h' tk B e' as ds, (∀ b o, s.heap.get? b = some o → h'.get? b = some o) → s.heap.get? B = none → Row (rlt r) n ds → as.length = (bruns (rlt r) n ds).2.length → h'.get? B = some (listOf (as.map Value.ref).toArray e') → (∀ p ∈ zipT adr as (bruns (rlt r) n ds).2, h'.get? p.1 = some p.2) → (∀ p ∈ zipT adr as (bruns (rlt r) n ds).2, s.heap.get? p.1 = none) →
     R (.ok (.ret (.ref B))) { s with heap := h', toks := tk }) :
   codeAny (model PG w) A (.call (.ref 88) ⟨[.ref It], []⟩) R s := by
  refine' enterP (W := []) [(Str.ofString "items", .ref It)] S st (fun _ h => nomatch h) ?k6 ?k7 (by omega) ?k9 ?kB ?_ ?c2 ?c3 ?c4 ?c5
  (case k6 => k_is)
  (case k7 => k_is)
  (case k9 => exact BindsTo.of_eq rfl)
  (case c5 => decide)
  (case kB => exact locs rfl)
  (case c2 => exact rfl)
  (case c3 => exact rfl)
  (case c4 => exact rfl)
  intro g L h₁ kp hg kk F sg X' T'
  try dsimp only
  have kpg : ∀ b o, s.heap.get? b = some o → g.get? b = some o := fun b o e => kp b o (by simp) e
  have hIg : Its r n adr g := hI.keeps kpg
  have hItg := kpg _ _ hIt
  have hItl : g.IsList It (refs adr (List.range n)).toArray := ⟨_, hItg, rfl, _, rfl⟩
  have N : News g L h₁ [] := fun p hp => nomatch hp
  clear kk
  walk_at "wi"
  (rename Fr _ _ _ _ => F1); (rename News _ _ _ _ => N1)
  refine list_copyK F1 N1 (PySem.IsL.isList (F1.keep _ _ hItg)) ?_ (by rw [List.size_toArray, refs_length, List.length_range, sizeLine_eq]; omega)
  intro H c h1 F2 N2 l1
  clear F1 N1
  (try clear N)
  have hgH : g.get? H = none := (N2 _ (List.mem_cons_self ..)).2.2
  have hGH : G.get? H = none := by
    cases q : G.get? H with
    | none => rfl
    | some o => have := sg _ _ q; rw [hgH] at this; cases this
  have hne : It ≠ H := fun q => by rw [q, hgH] at hItg; cases hItg
  walk_at "wi"
  (rename Fr _ _ _ _ => F3); (rename News _ _ _ _ => N3)
  refine ⟨X'.keeps F3.keep, ?_⟩
  (try dsimp only [List.nil_append, List.cons_append])
  refine wpAny_call ?_
  refine' heapify_c S ?st hGH ?hl ?hf ?hI ?hx ?hr ?hu ?hh ?k
  (case st => exact fun b o e => F3.keep _ _ (sg b o e))
  (case hl => exact (N3 _ (List.mem_cons_self ..)).1)
  (case hf => rw [List.length_range]; omega)
  (case hI => exact hIg.keeps F3.keep)
  (case hx => exact fun k hk => List.mem_range.mp hk)
  (case hr => show A.depth + 1 + 2 < _; omega)
  (case hu => show A.units + 3 + 30 < _; omega)
  (case hh => exact hh)
  intro h4 tk4 kp4 hl4
  (try dsimp only)
  have hLH := (N3 _ (List.mem_cons_self ..)).2.1
  have F4 := frKp F3 kp4 (by simpa using Ne.symm hLH) (by simpa using hgH)
  have N4 : News g L h4 [(H, listOf (refs adr (heapify (rlt r) (List.range n))).toArray c)] := news_first (oH := listOf (refs adr (List.range n)).toArray c) (fun p hp => by
    rw [List.mem_singleton.mp hp]; exact N3 _ (List.mem_cons_self ..)) kp4 hl4 (fun p hp => nomatch hp)
  clear F3 N3
  walk_at "wi"
  (rename Fr _ _ _ _ => F5); (rename News _ _ _ _ => N5)
  refine ⟨X'.keeps F5.keep, ?_⟩
  (try dsimp only [List.nil_append, List.cons_append])
  refine wpAny_call ?_
  obtain ⟨hp1, hp2⟩ := heapify_spec (rlt_so r) (List.range n)
  refine' law_bars_c S ?st2 hGH ?hl2 ?hIt2 hne h2 h64 hp1 hp2 ?hI2 ?hr2 ?hu2 ?hh2 ?k2
  (case st2 => exact fun b o e => F5.keep _ _ (sg b o e))
  (case hl2 => exact (N5 _ (List.mem_cons_self ..)).1)
  (case hIt2 => exact F5.keep _ _ hItg)
  (case hI2 => exact hIg.keeps F5.keep)
  (case hr2 => show A.depth + 1 + 3 < _; omega)
  (case hu2 => show A.units + 3 + 60 < _; omega)
  (case hh2 => exact hh)
  intro h6 tk6 B e' as ds kp6 hB hRow hab hlB hT hTn
  (try dsimp only)
  have F6 := frKp F5 kp6 (by simpa using Ne.symm hLH) (by simpa using hgH)
  walk_at "wi"
  refine k _ _ B e' as ds (fun b o e => F6.keep _ _ (kpg b o e)) ?_ hRow hab hlB hT ?_
  rotate_left
  · intro p hp
    have z := hTn p hp
    cases q : s.heap.get? p.1 with
    | none => rfl
    | some o =>
      have := F5.keep _ _ (kpg _ _ q)
      dsimp only at z
      rw [this] at z
      cases z
  cases q : s.heap.get? B with
  | none => rfl
  | some o =>
    have := F5.keep _ _ (kpg _ _ q)
    dsimp only at hB
    rw [this] at hB
    cases hB

theorem law_fromM_c {w : World} {A : Around} {s : Shared} {G : Heap} {R : Result → Shared → Prop} {mean : ExcName → Option Value} {mg mb : Str → Option Value} (S : Sta w G mean mg mb) (st : G.StaysIn s.heap)
   {r : Nat → Int} {n : Nat} {adr : Nat → Addr} {It : Addr} {e0 : Nat} (hIt : s.heap.get? It = some (listOf (refs adr (List.range n)).toArray e0))
   (h2 : 2 ≤ n) (h64 : n < 64) (hI : Its r n adr s.heap) (hroom : A.depth + 4 < recursionLimit) (hunits : A.units + 70 < cLine) (hh : A.handled = none)
   (k : ∀ h' tk B e' as ds, (∀ b o, s.heap.get? b = some o → h'.get? b = some o) → s.heap.get? B = none → Row (rgt r) n ds → as.length = (bruns (rgt r) n ds).2.length → h'.get? B = some (listOf (as.map Value.ref).toArray e') → (∀ p ∈ zipT adr as (bruns (rgt r) n ds).2, h'.get? p.1 = some p.2) → (∀ p ∈ zipT adr as (bruns (rgt r) n ds).2, s.heap.get? p.1 = none) →
     R (.ok (.ret (.ref B))) { s with heap := h', toks := tk }) :
   codeAny (model PG w) A (.call (.ref 95) ⟨[.ref It], []⟩) R s := by
  refine' enterP (W := []) [(Str.ofString "items", .ref It)] S st (fun _ h => nomatch h) ?k6 ?k7 (by omega) ?k9 ?kB ?_ ?c2 ?c3 ?c4 ?c5
  (case k6 => k_is)
  (case k7 => k_is)
  (case k9 => exact BindsTo.of_eq rfl)
  (case c5 => decide)
  (case kB => exact locs rfl)
  (case c2 => exact rfl)
  (case c3 => exact rfl)
  (case c4 => exact rfl)
  intro g L h₁ kp hg kk F sg X' T'
  try dsimp only
  have kpg : ∀ b o, s.heap.get? b = some o → g.get? b = some o := fun b o e => kp b o (by simp) e
  have hIg : Its r n adr g := hI.keeps kpg
  have hItg := kpg _ _ hIt
  have hItl : g.IsList It (refs adr (List.range n)).toArray := ⟨_, hItg, rfl, _, rfl⟩
  have N : News g L h₁ [] := fun p hp => nomatch hp
  clear kk
  walk_at "wi"
  (rename Fr _ _ _ _ => F1); (rename News _ _ _ _ => N1)
  refine list_copyK F1 N1 (PySem.IsL.isList (F1.keep _ _ hItg)) ?_ (by rw [List.size_toArray, refs_length, List.length_range, sizeLine_eq]; omega)
  intro H c h1 F2 N2 l1
  clear F1 N1
  (try clear N)
  have hgH : g.get? H = none := (N2 _ (List.mem_cons_self ..)).2.2
  have hGH : G.get? H = none := by
    cases q : G.get? H with
    | none => rfl
    | some o => have := sg _ _ q; rw [hgH] at this; cases this
  have hne : It ≠ H := fun q => by rw [q, hgH] at hItg; cases hItg
  walk_at "wi"
  (rename Fr _ _ _ _ => F3); (rename News _ _ _ _ => N3)
  refine ⟨X'.keeps F3.keep, ?_⟩
  (try dsimp only [List.nil_append, List.cons_append])
  refine wpAny_call ?_
  refine' heapifyM_c S ?st hGH ?hl ?hf ?hI ?hx ?hr ?hu ?hh ?k
  (case st => exact fun b o e => F3.keep _ _ (sg b o e))
  (case hl => exact (N3 _ (List.mem_cons_self ..)).1)
  (case hf => rw [List.length_range]; omega)
  (case hI => exact hIg.keeps F3.keep)
  (case hx => exact fun k hk => List.mem_range.mp hk)
  (case hr => show A.depth + 1 + 2 < _; omega)
  (case hu => show A.units + 3 + 30 < _; omega)
  (case hh => exact hh)
  intro h4 tk4 kp4 hl4
  (try dsimp only)
  have hLH := (N3 _ (List.mem_cons_self ..)).2.1
  have F4 := frKp F3 kp4 (by simpa using Ne.symm hLH) (by simpa using hgH)
  have N4 : News g L h4 [(H, listOf (refs adr (heapify (rgt r) (List.range n))).toArray c)] := news_first (oH := listOf (refs adr (List.range n)).toArray c) (fun p hp => by
    rw [List.mem_singleton.mp hp]; exact N3 _ (List.mem_cons_self ..)) kp4 hl4 (fun p hp => nomatch hp)
  clear F3 N3
  walk_at "wi"
  (rename Fr _ _ _ _ => F5); (rename News _ _ _ _ => N5)
  refine ⟨X'.keeps F5.keep, ?_⟩
  (try dsimp only [List.nil_append, List.cons_append])
  refine wpAny_call ?_
  obtain ⟨hp1, hp2⟩ := heapify_spec (rlt_so r).flip (List.range n)
  refine' law_barsM_c S ?st2 hGH ?hl2 ?hIt2 hne h2 h64 hp1 hp2 ?hI2 ?hr2 ?hu2 ?hh2 ?k2
  (case st2 => exact fun b o e => F5.keep _ _ (sg b o e))
  (case hl2 => exact (N5 _ (List.mem_cons_self ..)).1)
  (case hIt2 => exact F5.keep _ _ hItg)
  (case hI2 => exact hIg.keeps F5.keep)
  (case hr2 => show A.depth + 1 + 3 < _; omega)
  (case hu2 => show A.units + 3 + 60 < _; omega)
  (case hh2 => exact hh)
  intro h6 tk6 B e' as ds kp6 hB hRow hab hlB hT hTn
  (try dsimp only)
  have F6 := frKp F5 kp6 (by simpa using Ne.symm hLH) (by simpa using hgH)
  walk_at "wi"
  refine k _ _ B e' as ds (fun b o e => F6.keep _ _ (kpg b o e)) ?_ hRow hab hlB hT ?_
  rotate_left
  · intro p hp
    have z := hTn p hp
    cases q : s.heap.get? p.1 with
    | none => rfl
    | some o =>
      have := F5.keep _ _ (kpg _ _ q)
      dsimp only at z
      rw [this] at z
      cases z
  cases q : s.heap.get? B with
  | none => rfl
  | some o =>
    have := F5.keep _ _ (kpg _ _ q)
    dsimp only at hB
    rw [this] at hB
    cases hB
end Mine
end

section
open PySem PySem.W PyProof.Rows PySem.Calls PySem.SeqAt
set_option Elab.async false
set_option linter.unusedVariables false
set_option maxRecDepth 100000
set_option maxHeartbeats 8000000
namespace Mine
open LCg LCt
local macro_rules | `(tactic| walk_at "lk") => `(tactic| first | with_reducible assumption | ((try dsimp only); with_reducible refine lkY ?_; with_reducible exact rfl) | ((try dsimp only); with_reducible refine lkN (by decide) ?_; walk_at "lk") | exact rfl)
local macro_rules | `(tactic| walk_at "eval Name") => `(tactic| (k_here; k_dflt (refine' nameX_L ?F ?v ?_ ?a ?b; (case F => with_reducible assumption); (case a => rfl); (case b => rfl); (case v => walk_at "lk"); k_whole)))
local macro_rules | `(tactic| walk_at "w") => `(tactic| ((try dsimp only); (with_reducible show wpAny _ _ _ _ _ _); (fail_if_success (with_reducible show wpAny _ _ (exec (Stmt.While _ _ _ _) _) _ _ _)); (fail_if_success (with_reducible show wpAny _ _ (exec (Stmt.For _ _ _ _ _) _) _ _ _)); (fail_if_success (with_reducible show wpAny _ _ (subscriptTail _ _ (Value.ref _) _) _ _ _)); (fail_if_success (with_reducible show wpAny _ _ (setItem (Value.ref _) _ _) _ _ _)); (fail_if_success (with_reducible show wpAny _ _ (binaryOp Operator.Mult (Value.ref _) _) _ _ _)); (fail_if_success (with_reducible show wpAny _ _ (binaryOp Operator.Mod _ _) _ _ _)); (fail_if_success (with_reducible show wpAny _ _ (call (Value.builtin "list.append") _ _) _ _ _)); (fail_if_success (with_reducible show wpAny _ _ (call (Value.builtin "sorted") _ _) _ _ _)); (fail_if_success (with_reducible show wpAny _ _ (call (Value.builtin "min") _ _) _ _ _)); (fail_if_success (with_reducible show wpAny _ _ (call (Value.builtin "max") _ _) _ _ _)); (fail_if_success (with_reducible show wpAny _ _ (eqBool (Value.ref _) _) _ _ _)); (fail_if_success (with_reducible show wpAny _ _ (eval (Expr.ListComp _ _ _ _) _) _ _ _)); (fail_if_success (with_reducible show wpAny _ _ (compareOp _ (Value.ref _) (Value.ref _)) _ _ _)); (fail_if_success (with_reducible show wpAny _ _ (call (Value.ref _) _ _) _ _ _)); walk1; (try dsimp only)))
local macro_rules | `(tactic| walk_at "ws") => `(tactic| repeat ((fail_if_success (with_reducible show wpAny _ _ (storeName _ _ _) _ _ _)); walk_at "w"))
local macro_rules | `(tactic| walk_at "call builtin:len") => `(tactic| ((with_reducible refine len_refs (by with_reducible assumption) ?_ ?_); (omega)))


local macro_rules | `(tactic| walk_at "my mem") => `(tactic| first | with_reducible exact List.mem_cons_self | (with_reducible refine List.mem_cons_of_mem _ ?_; walk_at "my mem"))
local macro_rules | `(tactic| walk_at "my all") => `(tactic| first
  | ((with_reducible refine List.forall_mem_cons.mpr ⟨?_, ?_⟩); (focus k_ne); walk_at "my all")
  | with_reducible exact List.forall_mem_nil _
  | ((with_reducible refine' zipT_ne ?zN ?zm ?zk ?zs); (case zN => with_reducible assumption); (case zm => walk_at "my mem"); (case zk => first | with_reducible exact NoTup.list | exact NoTup.iter (by with_reducible assumption) | exact NoTup.cell (by with_reducible assumption)); (case zs => (intro p hp; repeat (first | with_reducible exact hp | with_reducible refine List.mem_cons_of_mem _ ?_)))))
local macro_rules | `(tactic| walk_at "my updF") => `(tactic| first | ((with_reducible refine' UpdF.head ?ha); (case ha => walk_at "my all")) | ((with_reducible refine' UpdF.tail ?ta ?tb); (case ta => k_ne); (case tb => walk_at "my updF")))
local macro_rules | `(tactic| walk_at "storeName") => `(tactic| (k_here; k_dflt (refine' storeX_C ?F ?N ?c ?U ?d ?_ ?a ?b; (case b => rfl); (case a => rfl); (case F => with_reducible assumption); (case N => with_reducible assumption); (case c => rfl); (case U => walk_at "my updF"); (case d => with_reducible assumption); k_whole; intro h' o' F' N' d'; (try dsimp only at N'); (try k_sweep))))

local macro_rules | `(tactic| walk_at "ifs") => `(tactic| first | with_reducible refine Eq.mpr (if_pos rfl) ?_ | with_reducible refine Eq.mpr (if_neg Bool.false_ne_true) ?_ | with_reducible refine Eq.mpr (if_neg (show ¬ ((!true) = true) by decide)) ?_ | with_reducible refine Eq.mpr (if_pos (show (!false) = true by decide)) ?_)
local macro_rules | `(tactic| walk_at "wi") => `(tactic| repeat (first | walk_at "w" | walk_at "ifs"))

theorem fillWG (w : World) (s : Shared) (A : Around) (h : (hd.heap_39 w.params).In s.heap → wpAny (model Challenge.rw_dj5012_01.row.prog w) A (pure ()) (fun _ _ => True) (fun _ _ => False) s) :
   (hd.heap_39 w.params).In s.heap → wpAny (model Challenge.rw_dj5012_01.row.prog w) A (pure ()) (fun _ _ => True) (fun _ _ => False) s := by
  k_fill
  exact h

def IntL (r : Nat → Int) (n : Nat) (vs : List Value) : Prop := vs.length = n ∧ ∀ k, k < n → ∃ t, vs[k]? = some (.int (r k) t)

theorem sub_bools {prog : Program} {w : World} {A : Around} {E : Value → Shared → Prop} {s : Shared} {g : Heap} {L D : Addr} {news : List (Addr × Obj)} {f : Nat → Bool} {n : Nat} (i : Nat) {k : Int} {u : Tok} {value slice : Expr} {Q : Value → Shared → Prop} (N : News g L s.heap news)
    (hm : (D, LCg.lst ((List.range n).map fun k => Value.bool (f k))) ∈ news) (hk : k = (i : Int)) (hi : i < n) (hfit : n ≤ 1000) (h : Q (.bool (f i)) s)
    (hs : subscripted slice false (.ref D) (.int k u) = operate [.ref D, .int k u] (getItem (.ref D) (.int k u)) := by with_unfolding_all rfl) (hg : ∀ r, letTemporaryGo value (.ref D) r = pure () := by intro _; with_unfolding_all rfl) :
    wpAny (model prog w) A (subscriptTail value slice (.ref D) (.int k u)) Q E s := by
  subst hk
  exact kim_list N hm rfl rfl (by omega) (by omega) (by rw [Int.toNat_natCast]; simp [hi]) h hs hg

theorem fitL (i : Int) (h1 : -2000 ≤ i) (h2 : i ≤ 2000) : Builtin.Range.rangeFitsLong i = true := by
  unfold Builtin.Range.rangeFitsLong
  rw [Bool.and_eq_true, decide_eq_true_eq, decide_eq_true_eq]; exact ⟨Int.le_trans (by decide) h1, Int.lt_of_le_of_lt h2 (by decide)⟩
theorem range_n (n : Nat) : Builtin.Range.rangeSize 0 (n : Int) 1 = ((n : Nat) : Int) := by
  unfold Builtin.Range.rangeSize
  simp only [Int.reduceGT, if_true]
  split <;> omega
theorem small_n {n : Nat} (h : n ≤ 1000) : Builtin.Range.small 0 (n : Int) 1 = true := by
  unfold Builtin.Range.small
  rw [range_n, fitL 0 (by omega) (by omega), fitL n (by omega) (by omega), fitL 1 (by omega) (by omega)]
  simp only [Int.reduceGT, if_true, Bool.true_and]
  rw [fitL _ (by omega) (by omega), Bool.or_true]

theorem law_stretches_c {w : World} {A : Around} {s : Shared} {G : Heap} {R : Result → Shared → Prop} {mean : ExcName → Option Value} {mg mb : Str → Option Value} (S : Sta w G mean mg mb) (st : G.StaysIn s.heap)
   {r : Nat → Int} {n : Nat} {vs : List Value} {Rg : Addr} {e0 : Nat} {t : Int} {tt : Tok} (hRg : s.heap.get? Rg = some (listOf vs.toArray e0)) (hv : IntL r n vs)
   (h2 : 2 ≤ n) (h64 : n < 64) (hroom : A.depth + 4 < recursionLimit) (hunits : A.units + 70 < cLine) (hh : A.handled = none)
   (k : ∀ h' tk tk2, (∀ b o, s.heap.get? b = some o → h'.get? b = some o) →
     R (.ok (.ret (.int ((if ∀ k, k < n → r k ≤ t then 1 else ((List.range n).filter fun k => decide (r k ≤ t) && !decide (r (nx n k) ≤ t)).length : Nat)) tk2))) { s with heap := h', toks := tk }) :
   codeAny (model PG w) A (.call (.ref 100) ⟨[.ref Rg, .int t tt], []⟩) R s := by
  refine' enterC (W := []) [(Str.ofString "ring", .ref Rg), (Str.ofString "t", .int t tt)] S st (fun _ h => nomatch h) ?k6 ?k7 (by omega) ?k9 ?kB ?kN ?_ ?c2 ?c3 ?c4
  (case k6 => k_is)
  (case k7 => k_is)
  (case k9 => exact BindsTo.of_eq rfl)
  (case kB => exact rfl)
  (case kN => decide)
  (case c2 => exact rfl)
  (case c3 => exact rfl)
  (case c4 => exact rfl)
  intro g L h₁ tk cells kp hg kk F NC Y sg X' T'
  have hY := PyProof.Rows.CellsAre.three Y
  obtain ⟨o1, o2, o3, hE, d1, d2, d3⟩ := hY
  subst hE
  clear Y
  have kpg : ∀ b o, s.heap.get? b = some o → g.get? b = some o := fun b o e => kp b o (by simp) e
  have hRgg := kpg _ _ hRg
  have hRgl : g.IsList Rg vs.toArray := ⟨_, hRgg, rfl, _, rfl⟩
  clear kk
  try dsimp only
  have d1' : o1.data = .cell none := d1
  have d2' : o2.data = .cell none := d2
  have d3' : o3.data = .cell (some (.int t tt)) := d3
  clear d1 d2 d3
  have F0 : Fr g L h₁ (fun y => if y = Str.ofString "ring" then some (.ref Rg) else none) := F
  clear F
  walk_at "wi"
  refine len_list (PySem.IsL.isList (F0.keep _ _ hRgg)) (by rw [List.size_toArray, hv.1]; omega) ?_
  (try dsimp only)
  rw [List.size_toArray, hv.1]
  walk_at "wi"
  (rename Fr _ _ _ _ => F1); (rename News _ _ _ _ => N1)
  refine LCg.ListComp_U (F₀ := F1) (by with_unfolding_all rfl) (by decide) (by rfl) (by decide) (by rfl) ?_
  walk_at "wi"
  rename_i _ os ds
  refine LCg.CompSrc.base hh F1 N1 hRgl (by rw [List.size_toArray, hv.1, sizeLine_eq]; omega) ?_
  intro g'
  refine comp_inv n (fun i ys news => news = [(L + 1 + 1 + 1, o1), (L + 1 + 1, os), (L + 1, o3)] ∧ ys = (List.range i).map fun k => Value.bool (decide (r k ≤ t))) ?_ ?_ _ 0 [] _ (by rw [List.size_toArray, hv.1]; omega) ⟨rfl, rfl⟩
  · rintro i ys news v I2 oI2 C oC D m₂ h2' tk2 E' hi ⟨rfl, rfl⟩ hP hC hx2 F2 N2 off ne
    obtain ⟨tx, hx⟩ := hv.2 i hi
    rw [List.getElem?_toArray, hx] at hP
    replace hP := Option.some.inj hP
    subst hP
    walk_at "wi"
    exact CompEnd.intro F2 N2 _ (fun p hp => hp) off (.inl hRgl) ⟨rfl, by rw [List.range_succ, List.map_append]; rfl⟩
  · rintro ys news ⟨rfl, rfl⟩
    unfold LCg.FinE
    intro D h3 tk3 F3 N3 oD
    simp only [LCg.Off1] at oD
    (try dsimp only)
    clear F1 N1
    walk_at "wi"
    (rename Fr _ _ _ _ => F4); (rename News _ _ _ _ => N4)
    rename_i _ oi di
    refine in_listAt (fun y => match y with | .bool c => c == false | _ => false) (PySem.IsL.isList (N4 _ (List.mem_cons_self ..)).1) (fun y hy => ?_) ?_
    · rw [List.mem_toArray] at hy
      obtain ⟨k, _, rfl⟩ := List.mem_map.mp hy
      exact EqAt.bool_bool _ _
    have hany : ((List.map (fun k => Value.bool (decide (r k ≤ t))) (List.range n)).toArray.any fun y => match y with | .bool c => c == false | _ => false) = !decide (∀ k, k < n → r k ≤ t) := by
      rw [List.any_toArray, List.any_map]
      by_cases hall : ∀ k, k < n → r k ≤ t
      · rw [decide_eq_true hall, Bool.not_true, List.any_eq_false]
        intro k hk
        simp [hall k (List.mem_range.mp hk)]
      · rw [decide_eq_false hall, Bool.not_false, List.any_eq_true]
        simp only [Classical.not_forall] at hall
        obtain ⟨k, hk, hr⟩ := hall
        exact ⟨k, List.mem_range.mpr hk, by simp [hr]⟩
    rw [hany]
    by_cases hall : ∀ k, k < n → r k ≤ t
    · rw [decide_eq_true hall]
      (try simp only [Bool.not_true, Bool.not_false])
      rw [if_pos hall] at k
      walk_at "wi"
      refine k _ _ _ ?_
      exact fun b o e => F4.keep _ _ (kpg b o e)
    · rw [decide_eq_false hall]
      (try simp only [Bool.not_true, Bool.not_false])
      rw [if_neg hall] at k
      walk_at "wi"
      (rename Fr _ _ _ _ => F5); (rename News _ _ _ _ => N5)
      refine LCt.ListComp_T (F₀ := F5) (by with_unfolding_all rfl) (by decide) (by rfl) (by decide) (by rfl) ?_
      walk_at "wi"
      (rename Fr _ _ _ _ => F6); (rename News _ _ _ _ => N6); (rename IsRange _ _ _ _ _ _ _ _ => hR)
      have hrs : Builtin.Range.rangeSize 0 (n : Int) 1 = ((n : Nat) : Int) := by
        unfold Builtin.Range.rangeSize
        simp only [Int.reduceGT, if_true]
        split <;> omega
      refine LCt.CompSrcT.range (n := n) hh F6 N6 hR (small_n (by omega)) hrs (by rw [sizeLine_eq]; omega) ?_
      intro g2
      refine compT_inv n (fun i ys news => news = [(D, lst (List.map (fun k => Value.bool (decide (r k ≤ t))) (List.range n))), (L + 1 + 1 + 1, oi), (L + 1 + 1, os), (L + 1, o3)] ∧ ys.length = ((List.range i).filter fun k => decide (r k ≤ t) && !decide (r (nx n k) ≤ t)).length) ?_ ?_ _ 0 [] _ (by omega) ⟨rfl, rfl⟩
      · rintro i ys news v I2 oI2 C oC D2 m₂ h2' tk2 E' hi ⟨rfl, hys⟩ ⟨tv, rfl⟩ hC hx2 F7 N7 off ne
        have e0 : (0 : Int) + ((i : Nat) : Int) = ((i : Nat) : Int) := Int.zero_add _
        rw [e0] at hx2
        clear F6 N6
        (try clear F4 N4)
        walk_at "wi"
        (rename Fr _ _ _ _ => F8); (rename News _ _ _ _ => N8)
        refine sub_bools (f := fun k => decide (r k ≤ t)) i N8 (by walk_at "my mem") rfl hi (by omega) ?_
        (try dsimp only)
        by_cases c1 : r i ≤ t
        · rw [decide_eq_true c1]
          walk_at "wi"
          refine mod_int' (by omega) ?_
          rw [nx_int h2]
          (try dsimp only)
          walk_at "wi"
          (rename Fr _ _ _ _ => F9); (rename News _ _ _ _ => N9)
          refine sub_bools (f := fun k => decide (r k ≤ t)) (nx n i) N9 (by walk_at "my mem") rfl (nx_lt (by omega) i) (by omega) ?_
          (try dsimp only)
          by_cases c2 : r (nx n i) ≤ t
          · rw [decide_eq_true c2]
            walk_at "wi"
            exact CompEnd.intro (by with_reducible assumption) N9 _ (fun p hp => hp) off trivial ⟨rfl, by rw [hys, List.range_succ, List.filter_append]; simp [c1, c2]⟩
          · rw [decide_eq_false c2]
            walk_at "wi"
            exact CompEnd.intro (by with_reducible assumption) N9 _ (fun p hp => hp) off trivial ⟨rfl, by rw [List.length_append, hys, List.range_succ, List.filter_append]; simp [c1, c2]⟩
        · rw [decide_eq_false c1]
          walk_at "wi"
          exact CompEnd.intro (by with_reducible assumption) N8 _ (fun p hp => hp) off trivial ⟨rfl, by rw [hys, List.range_succ, List.filter_append]; simp [c1]⟩
      · rintro ys news ⟨rfl, hys⟩
        unfold LCg.FinE
        intro D3 h4 tk4 F10 N10 o10
        (try dsimp only)
        have hle : ys.length ≤ n := by rw [hys]; exact Nat.le_trans (List.length_filter_le _ _) (by rw [List.length_range]; exact Nat.le_refl _)
        have hl3 := PySem.IsL.isList (N10 _ (List.mem_cons_self ..)).1
        walk_at "wi"
        refine len_list hl3 (by rw [List.size_toArray]; omega) ?_
        (try dsimp only)
        rw [List.size_toArray, hys]
        walk_at "wi"
        refine k _ _ _ ?_
        exact fun b o e => F10.keep _ _ (kpg b o e)
end Mine
end

section
open PySem PySem.W PyProof.Rows PySem.Calls PySem.SeqAt
set_option Elab.async false
set_option linter.unusedVariables false
set_option maxRecDepth 100000
set_option maxHeartbeats 8000000
namespace Mine
open LCg LCt
local macro_rules | `(tactic| walk_at "lk") => `(tactic| first | with_reducible assumption | ((try dsimp only); with_reducible refine lkY ?_; with_reducible exact rfl) | ((try dsimp only); with_reducible refine lkN (by decide) ?_; walk_at "lk") | exact rfl)
local macro_rules | `(tactic| walk_at "eval Name") => `(tactic| (k_here; k_dflt (refine' nameX_L ?F ?v ?_ ?a ?b; (case F => with_reducible assumption); (case a => rfl); (case b => rfl); (case v => walk_at "lk"); k_whole)))
local macro_rules | `(tactic| walk_at "w") => `(tactic| ((try dsimp only); (with_reducible show wpAny _ _ _ _ _ _); (fail_if_success (with_reducible show wpAny _ _ (exec (Stmt.While _ _ _ _) _) _ _ _)); (fail_if_success (with_reducible show wpAny _ _ (exec (Stmt.For _ _ _ _ _) _) _ _ _)); (fail_if_success (with_reducible show wpAny _ _ (subscriptTail _ _ (Value.ref _) _) _ _ _)); (fail_if_success (with_reducible show wpAny _ _ (setItem (Value.ref _) _ _) _ _ _)); (fail_if_success (with_reducible show wpAny _ _ (binaryOp Operator.Mult (Value.ref _) _) _ _ _)); (fail_if_success (with_reducible show wpAny _ _ (binaryOp Operator.Mod _ _) _ _ _)); (fail_if_success (with_reducible show wpAny _ _ (call (Value.builtin "list.append") _ _) _ _ _)); (fail_if_success (with_reducible show wpAny _ _ (call (Value.builtin "sorted") _ _) _ _ _)); (fail_if_success (with_reducible show wpAny _ _ (call (Value.builtin "min") _ _) _ _ _)); (fail_if_success (with_reducible show wpAny _ _ (call (Value.builtin "max") _ _) _ _ _)); (fail_if_success (with_reducible show wpAny _ _ (eqBool (Value.ref _) _) _ _ _)); (fail_if_success (with_reducible show wpAny _ _ (eval (Expr.ListComp _ _ _ _) _) _ _ _)); (fail_if_success (with_reducible show wpAny _ _ (compareOp _ (Value.ref _) (Value.ref _)) _ _ _)); (fail_if_success (with_reducible show wpAny _ _ (call (Value.ref _) _ _) _ _ _)); walk1; (try dsimp only)))
local macro_rules | `(tactic| walk_at "ws") => `(tactic| repeat ((fail_if_success (with_reducible show wpAny _ _ (storeName _ _ _) _ _ _)); walk_at "w"))
local macro_rules | `(tactic| walk_at "call builtin:len") => `(tactic| ((with_reducible refine len_refs (by with_reducible assumption) ?_ ?_); (omega)))


local macro_rules | `(tactic| walk_at "my mem") => `(tactic| first | with_reducible exact List.mem_cons_self | (with_reducible refine List.mem_cons_of_mem _ ?_; walk_at "my mem"))
local macro_rules | `(tactic| walk_at "my all") => `(tactic| first
  | ((with_reducible refine List.forall_mem_cons.mpr ⟨?_, ?_⟩); (focus k_ne); walk_at "my all")
  | with_reducible exact List.forall_mem_nil _
  | ((with_reducible refine' zipT_ne ?zN ?zm ?zk ?zs); (case zN => with_reducible assumption); (case zm => walk_at "my mem"); (case zk => first | with_reducible exact NoTup.list | exact NoTup.iter (by with_reducible assumption) | exact NoTup.cell (by with_reducible assumption)); (case zs => (intro p hp; repeat (first | with_reducible exact hp | with_reducible refine List.mem_cons_of_mem _ ?_)))))
local macro_rules | `(tactic| walk_at "my updF") => `(tactic| first | ((with_reducible refine' UpdF.head ?ha); (case ha => walk_at "my all")) | ((with_reducible refine' UpdF.tail ?ta ?tb); (case ta => k_ne); (case tb => walk_at "my updF")))
local macro_rules | `(tactic| walk_at "storeName") => `(tactic| (k_here; k_dflt (refine' storeX_C ?F ?N ?c ?U ?d ?_ ?a ?b; (case b => rfl); (case a => rfl); (case F => with_reducible assumption); (case N => with_reducible assumption); (case c => rfl); (case U => walk_at "my updF"); (case d => with_reducible assumption); k_whole; intro h' o' F' N' d'; (try dsimp only at N'); (try k_sweep))))

local macro_rules | `(tactic| walk_at "ifs") => `(tactic| first | with_reducible refine Eq.mpr (if_pos rfl) ?_ | with_reducible refine Eq.mpr (if_neg Bool.false_ne_true) ?_ | with_reducible refine Eq.mpr (if_neg (show ¬ ((!true) = true) by decide)) ?_ | with_reducible refine Eq.mpr (if_pos (show (!false) = true by decide)) ?_)
local macro_rules | `(tactic| walk_at "wi") => `(tactic| repeat (first | walk_at "w" | walk_at "ifs"))

theorem fillWH (w : World) (s : Shared) (A : Around) (h : (hd.heap_39 w.params).In s.heap → wpAny (model Challenge.rw_dj5012_01.row.prog w) A (pure ()) (fun _ _ => True) (fun _ _ => False) s) :
   (hd.heap_39 w.params).In s.heap → wpAny (model Challenge.rw_dj5012_01.row.prog w) A (pure ()) (fun _ _ => True) (fun _ _ => False) s := by
  k_fill
  exact h

theorem sum_any {prog : Program} {w : World} {A : Around} {E : Value → Shared → Prop} {s : Shared} {l : Addr} {vs : List Value} {ns : List Int} {Q : Value → Shared → Prop} (hh : A.handled = none) (hl : s.heap.IsList l vs.toArray) (hi : IntsAre vs ns)
    (h : ∀ h' tk t' (i : Int), (∀ b o, s.heap.get? b = some o → h'.get? b = some o) → Q (.int i t') { s with heap := h', toks := tk }) :
    wpAny (model prog w) A (call (.builtin "sum") [.ref l]) Q E s := by
  obtain ⟨xs, e⟩ := hi.allInts.items
  rw [e] at hl
  exact sum_intListG hh hl fun h' tk t' hk => h h' tk t' _ hk

theorem ints_get : ∀ {vs : List Value} {ns : List Int}, IntsAre vs ns → ∀ {i : Nat}, i < vs.length → ∃ t, vs[i]? = some (.int (ns.getD i 0) t)
  | _, _, .nil, _, h => absurd h (Nat.not_lt_zero _)
  | _, _, .cons n t r, 0, _ => ⟨t, rfl⟩
  | _, _, .cons n t r, i + 1, h => by
    obtain ⟨u, e⟩ := ints_get r (i := i) (by simpa using h)
    exact ⟨u, by simpa using e⟩

theorem min_cap {prog : Program} {w : World} {A : Around} {E : Value → Shared → Prop} {s : Shared} {l : Nat} {t u : Tok} {Q : Value → Shared → Prop} (hh : A.handled = none)
    (h : ∀ h' tk (c : Nat) (v : Tok), c ≤ 24 → (∀ b o, s.heap.get? b = some o → h'.get? b = some o) → Q (.int (c : Nat) v) { s with heap := h', toks := tk }) :
    wpAny (model prog w) A (call (.builtin "min") [.int 24 t, .int (l : Nat) u]) Q E s := by
  refine min_two_ints hh fun h' tk hk => ?_
  by_cases hlt : ((l : Nat) : Int) < 24
  · rw [if_pos hlt]; exact h h' tk l u (by omega) hk
  · rw [if_neg hlt]; exact h h' tk 24 t (by omega) hk

theorem law_ring_c {w : World} {A : Around} {s : Shared} {G : Heap} {R : Result → Shared → Prop} {mean : ExcName → Option Value} {mg mb : Str → Option Value} (S : Sta w G mean mg mb) (st : G.StaysIn s.heap)
   {vs : List Value} {ns : List Int} {Sc : Addr} (hSc : s.heap.IsList Sc vs.toArray) (hi : IntsAre vs ns)
   (h63 : ns.length ≤ 63) (hroom : A.depth + 4 < recursionLimit) (hunits : A.units + 70 < cLine) (hh : A.handled = none)
   (k : ∀ h' tk Rg vs' e' r n, (∀ b o, s.heap.get? b = some o → h'.get? b = some o) → s.heap.get? Rg = none → h'.get? Rg = some (listOf vs'.toArray e') → IntL r n vs' → 5 ≤ n → n ≤ 29 →
     R (.ok (.ret (.ref Rg))) { s with heap := h', toks := tk }) :
   codeAny (model PG w) A (.call (.ref 76) ⟨[.ref Sc], []⟩) R s := by
  refine' enterC (W := []) [(Str.ofString "script", .ref Sc)] S st (fun _ h => nomatch h) ?k6 ?k7 (by omega) ?k9 ?kB ?kN ?_ ?c2 ?c3 ?c4
  (case k6 => k_is)
  (case k7 => k_is)
  (case k9 => exact BindsTo.of_eq rfl)
  (case kB => exact rfl)
  (case kN => decide)
  (case c2 => exact rfl)
  (case c3 => exact rfl)
  (case c4 => exact rfl)
  intro g L h₁ tk cells kp hg kk F NC Y sg X' T'
  have hY := PyProof.Rows.CellsAre.two Y
  obtain ⟨o1, o2, hE, d1, d2⟩ := hY
  subst hE
  clear Y
  have kpg : ∀ b o, s.heap.get? b = some o → g.get? b = some o := fun b o e => kp b o (by simp) e
  have hRgl : g.IsList Sc vs.toArray := by obtain ⟨o, e, r⟩ := hSc; exact ⟨o, kpg _ _ e, r⟩
  clear kk
  try dsimp only
  have d1' : o1.data = .cell none := d1
  have d2' : o2.data = .cell (some (.ref Sc)) := d2
  clear d1 d2
  have F0 : Fr g L h₁ (fun y => none) := F
  clear F
  have hlv : vs.length = ns.length := hi.length
  walk_at "wi"
  (rename Fr _ _ _ _ => F1); (rename News _ _ _ _ => N1)
  refine sum_any hh (by obtain ⟨o, e, r⟩ := hRgl; exact ⟨o, F1.keep _ _ e, r⟩) hi ?_
  intro h2 tk2 ts sm kp2
  have F2 := F1.keeps kp2
  have N2 := N1.grown kp2
  clear F1 N1
  walk_at "wi"
  refine mod_int' (by decide) ?_
  (try dsimp only)
  walk_at "wi"
  (rename Fr _ _ _ _ => F3); (rename News _ _ _ _ => N3)
  rename_i _ osm dsm
  refine min_cap hh ?_
  intro h4 tk4 c uc hc kp4
  have F4 := F3.keeps kp4
  have N4 := N3.grown kp4
  clear F3 N3 kp2
  walk_at "wi"
  (rename Fr _ _ _ _ => F5); (rename News _ _ _ _ => N5); (rename IsRange _ _ _ _ _ _ _ _ => hR)
  refine LCg.CompSrc.range (n := c) hh F5 N5 hR (small_n (by omega)) (range_n c) (by rw [sizeLine_eq]; omega) ?_
  intro g2
  refine comp_inv c (fun i ys news => news = [(L + 1 + 1, osm), (L + 1, o2)] ∧ ys.length = i ∧ ∃ ms, IntsAre ys ms) ?_ ?_ _ 0 [] _ (by omega) ⟨rfl, rfl, [], .nil⟩
  · rintro i ys news v I2 oI2 C oC D2 m₂ h2' tk2 E' hi' ⟨rfl, hys, ms, hms⟩ ⟨tv, rfl⟩ hC hx2 F7 N7 off ne
    have e0 : (0 : Int) + ((i : Nat) : Int) = ((i : Nat) : Int) := Int.zero_add _
    rw [e0] at hx2
    clear F5 N5
    (try clear F4 N4)
    walk_at "wi"
    have hl7 : h2'.IsList Sc vs.toArray := by obtain ⟨o, e, r⟩ := hRgl; exact ⟨o, F7.keep _ _ e, r⟩
    refine slice_list3 (s := { s with heap := h2', toks := _ }) (lo := some ((i : Nat) : Int)) (hi := none) (st := some 24) F7 N7 hl7 (by first | exact IsPart.int _ _ | constructor) (by first | exact IsPart.none | constructor) (by first | exact IsPart.int _ _ | constructor) (by decide) ?_ (hsz := by rw [List.size_toArray, sizeLine_eq]; omega)
    intro h8 F8 N8
    (try dsimp only)
    have hp8 := hi.pick (some ((i : Nat) : Int)) none (some 24)
    have hl8 := PySem.IsL.isList (N8 _ (List.mem_cons_self ..)).1
    walk_at "wi"
    refine sum_any hh (vs := (slicePick vs.toArray (some ((i : Nat) : Int)) none (some 24)).toList) (by rw [Array.toArray_toList]; exact hl8) hp8 ?_
    intro h9 tk9 t9 i9 kp9
    have F9 := F8.keeps kp9
    have N9 := N8.grown kp9
    (try dsimp only)
    walk_at "wi"
    exact CompEnd.intro F9 (fun p hp => N9 p (List.mem_cons_of_mem _ hp)) _ (fun p hp => hp) off trivial ⟨rfl, by rw [List.length_append, hys]; rfl, _, PyProof.Rows.ksk_snoc hms⟩
  · rintro ys news ⟨rfl, hys, ms, hms⟩
    unfold LCg.FinA
    intro D h10 tk10 F10 N10 oD
    simp only [LCg.Off1] at oD
    (try dsimp only)
    (try clear F5 N5)
    walk_at "wi"
    refine LCg.ListComp_U (F₀ := F10) (by with_unfolding_all rfl) (by decide) (by rfl) (by decide) (by rfl) ?_
    walk_at "wi"
    refine LCg.CompSrc.ledger hh F10 N10 (List.mem_cons_self ..) (by rw [List.size_toArray, hys, sizeLine_eq]; omega) ?_
    intro g3
    refine comp_inv c (fun i zs news => news = [(D, lst ys), (L + 1 + 1, osm), (L + 1, o2)] ∧ zs.length = i ∧ ∃ ms, IntsAre zs ms) ?_ ?_ _ 0 [] _ (by rw [List.size_toArray, hys]; omega) ⟨rfl, rfl, [], .nil⟩
    · rintro i zs news v I2 oI2 C oC D2 m₂ h2' tk2 E' hi' ⟨rfl, hzs, ms', hms'⟩ hP hC hx2 F11 N11 off ne
      obtain ⟨tv, hv⟩ := ints_get hms (i := i) (by omega)
      rw [List.getElem?_toArray, hv] at hP
      replace hP := Option.some.inj hP
      subst hP
      walk_at "wi"
      by_cases hsm : (sm.fmod 2 == 1) = true
      · refine Eq.mpr (if_pos hsm) ?_
        walk_at "wi"
        refine mod_int' (by decide) ?_
        (try dsimp only)
        walk_at "wi"
        exact CompEnd.intro (by with_reducible assumption) N11 _ (fun p hp => hp) off (.inr ⟨_, by walk_at "my mem", rfl, _, rfl⟩) ⟨rfl, by rw [List.length_append, hzs]; rfl, _, PyProof.Rows.ksk_snoc hms'⟩
      · refine Eq.mpr (if_neg hsm) ?_
        walk_at "wi"
        exact CompEnd.intro (by with_reducible assumption) N11 _ (fun p hp => hp) off (.inr ⟨_, by walk_at "my mem", rfl, _, rfl⟩) ⟨rfl, by rw [List.length_append, hzs]; rfl, _, PyProof.Rows.ksk_snoc hms'⟩
    · rintro zs news ⟨rfl, hzs, ms', hms'⟩
      unfold LCg.FinE
      intro D3 h12 tk12 F12 N12 oD3
      (try dsimp only)
      (try clear F10 N10)
      walk_at "wi"
      have h71 : ∃ a1 a2 a3 a4 a5 : Tok, IsTup g 71 #[.int 3 a1, .int 1 a2, .int 4 a3, .int 1 a4, .int 5 a5] := by
        have q71 := X' 71 _ (by k_is)
        exact ⟨_, _, _, _, _, _, q71, rfl, _, rfl⟩
      obtain ⟨a1, a2, a3, a4, a5, h71⟩ := h71
      (rename Fr _ _ _ _ => F13); (rename News _ _ _ _ => N13)
      refine' list_copyKT (s := { s with heap := h12, toks := _ }) F13 N13 ?k3 ?_ ?z
      (case k3 => (obtain ⟨o, e, q⟩ := h71; exact ⟨o, F13.keep _ _ e, q⟩))
      (case z => simp [sizeLine_eq])
      intro D4 c4 h14 F14 N14 l14
      walk_at "wi"
      (rename Fr _ _ _ _ => F15); (rename News _ _ _ _ => N15)
      have hall : IntsAre (zs ++ [Value.int 3 a1, .int 1 a2, .int 4 a3, .int 1 a4, .int 5 a5]) (ms' ++ [3, 1, 4, 1, 5]) := hms'.append (.cons _ _ (.cons _ _ (.cons _ _ (.cons _ _ (.cons _ _ .nil)))))
      refine k _ _ _ _ 0 (fun k => (ms' ++ [3, 1, 4, 1, 5]).getD k 0) (c + 5) (fun b o e => F15.keep _ _ (kpg b o e)) ?_ (N15 _ (List.mem_cons_self ..)).1 ⟨by rw [List.length_append, hzs]; rfl, fun k hk => ints_get hall (by rw [List.length_append, hzs]; exact hk)⟩ (by omega) (by omega)
      cases q : s.heap.get? h14.objs.size with
      | none => rfl
      | some o =>
        have z := (N15 _ (List.mem_cons_self ..)).2.2
        dsimp only at z
        rw [kpg _ _ q] at z
        cases z
end Mine
end

section
open PySem PySem.W PyProof.Rows PySem.Calls PySem.SeqAt
set_option Elab.async false
set_option linter.unusedVariables false
set_option maxRecDepth 100000
set_option maxHeartbeats 8000000
namespace Mine
open LCg LCt
local macro_rules | `(tactic| walk_at "lk") => `(tactic| first | with_reducible assumption | ((try dsimp only); with_reducible refine lkY ?_; with_reducible exact rfl) | ((try dsimp only); with_reducible refine lkN (by decide) ?_; walk_at "lk") | exact rfl)
local macro_rules | `(tactic| walk_at "eval Name") => `(tactic| (k_here; k_dflt (refine' nameX_L ?F ?v ?_ ?a ?b; (case F => with_reducible assumption); (case a => rfl); (case b => rfl); (case v => walk_at "lk"); k_whole)))
local macro_rules | `(tactic| walk_at "w") => `(tactic| ((try dsimp only); (with_reducible show wpAny _ _ _ _ _ _); (fail_if_success (with_reducible show wpAny _ _ (exec (Stmt.While _ _ _ _) _) _ _ _)); (fail_if_success (with_reducible show wpAny _ _ (exec (Stmt.For _ _ _ _ _) _) _ _ _)); (fail_if_success (with_reducible show wpAny _ _ (subscriptTail _ _ (Value.ref _) _) _ _ _)); (fail_if_success (with_reducible show wpAny _ _ (setItem (Value.ref _) _ _) _ _ _)); (fail_if_success (with_reducible show wpAny _ _ (binaryOp Operator.Mult (Value.ref _) _) _ _ _)); (fail_if_success (with_reducible show wpAny _ _ (binaryOp Operator.Mod _ _) _ _ _)); (fail_if_success (with_reducible show wpAny _ _ (call (Value.builtin "list.append") _ _) _ _ _)); (fail_if_success (with_reducible show wpAny _ _ (call (Value.builtin "sorted") _ _) _ _ _)); (fail_if_success (with_reducible show wpAny _ _ (call (Value.builtin "min") _ _) _ _ _)); (fail_if_success (with_reducible show wpAny _ _ (call (Value.builtin "max") _ _) _ _ _)); (fail_if_success (with_reducible show wpAny _ _ (eqBool (Value.ref _) _) _ _ _)); (fail_if_success (with_reducible show wpAny _ _ (eval (Expr.ListComp _ _ _ _) _) _ _ _)); (fail_if_success (with_reducible show wpAny _ _ (compareOp _ (Value.ref _) (Value.ref _)) _ _ _)); (fail_if_success (with_reducible show wpAny _ _ (call (Value.ref _) _ _) _ _ _)); walk1; (try dsimp only)))
local macro_rules | `(tactic| walk_at "ws") => `(tactic| repeat ((fail_if_success (with_reducible show wpAny _ _ (storeName _ _ _) _ _ _)); walk_at "w"))
local macro_rules | `(tactic| walk_at "call builtin:len") => `(tactic| ((with_reducible refine len_refs (by with_reducible assumption) ?_ ?_); (omega)))


local macro_rules | `(tactic| walk_at "my mem") => `(tactic| first | with_reducible exact List.mem_cons_self | (with_reducible refine List.mem_cons_of_mem _ ?_; walk_at "my mem"))
local macro_rules | `(tactic| walk_at "my all") => `(tactic| first
  | ((with_reducible refine List.forall_mem_cons.mpr ⟨?_, ?_⟩); (focus k_ne); walk_at "my all")
  | with_reducible exact List.forall_mem_nil _
  | ((with_reducible refine' zipT_ne ?zN ?zm ?zk ?zs); (case zN => with_reducible assumption); (case zm => walk_at "my mem"); (case zk => first | with_reducible exact NoTup.list | exact NoTup.iter (by with_reducible assumption) | exact NoTup.cell (by with_reducible assumption)); (case zs => (intro p hp; repeat (first | with_reducible exact hp | with_reducible refine List.mem_cons_of_mem _ ?_)))))
local macro_rules | `(tactic| walk_at "my updF") => `(tactic| first | ((with_reducible refine' UpdF.head ?ha); (case ha => walk_at "my all")) | ((with_reducible refine' UpdF.tail ?ta ?tb); (case ta => k_ne); (case tb => walk_at "my updF")))
local macro_rules | `(tactic| walk_at "storeName") => `(tactic| (k_here; k_dflt (refine' storeX_C ?F ?N ?c ?U ?d ?_ ?a ?b; (case b => rfl); (case a => rfl); (case F => with_reducible assumption); (case N => with_reducible assumption); (case c => rfl); (case U => walk_at "my updF"); (case d => with_reducible assumption); k_whole; intro h' o' F' N' d'; (try dsimp only at N'); (try k_sweep))))

local macro_rules | `(tactic| walk_at "ifs") => `(tactic| first | with_reducible refine Eq.mpr (if_pos rfl) ?_ | with_reducible refine Eq.mpr (if_neg Bool.false_ne_true) ?_ | with_reducible refine Eq.mpr (if_neg (show ¬ ((!true) = true) by decide)) ?_ | with_reducible refine Eq.mpr (if_pos (show (!false) = true by decide)) ?_)
local macro_rules | `(tactic| walk_at "wi") => `(tactic| repeat (first | walk_at "w" | walk_at "ifs"))

theorem fillWI (w : World) (s : Shared) (A : Around) (h : (hd.heap_39 w.params).In s.heap → wpAny (model Challenge.rw_dj5012_01.row.prog w) A (pure ()) (fun _ _ => True) (fun _ _ => False) s) :
   (hd.heap_39 w.params).In s.heap → wpAny (model Challenge.rw_dj5012_01.row.prog w) A (pure ()) (fun _ _ => True) (fun _ _ => False) s := by
  k_fill
  exact h

/-- objects that are not touched any more -/
def Frz (T : List (Addr × Obj)) : Prop := ∀ p ∈ T, (∀ v, p.2.data ≠ .cell v) ∧ p.2.cls ≠ .type "list_iterator"
theorem Frz.nil : Frz [] := fun _ h => nomatch h
theorem Frz.cons {a : Addr} {o : Obj} {T : List (Addr × Obj)} (h1 : ∀ v, o.data ≠ .cell v) (h2 : o.cls ≠ .type "list_iterator") (h : Frz T) : Frz ((a, o) :: T) := fun p hp => by
  rcases List.mem_cons.mp hp with rfl | hp
  · exact ⟨h1, h2⟩
  · exact h p hp
theorem Frz.list {a : Addr} {vs : Array Value} {e : Nat} {T : List (Addr × Obj)} (h : Frz T) : Frz ((a, listOf vs e) :: T) :=
  Frz.cons (fun _ q => by cases q) (by show Value.type "list" ≠ Value.type "list_iterator"; decide) h
theorem Frz.append {T T' : List (Addr × Obj)} (h : Frz T) (h' : Frz T') : Frz (T ++ T') := fun p hp => (List.mem_append.mp hp).elim (h p) (h' p)
theorem frz_zipT {adr : Nat → Addr} {as : List Addr} {bs : List (Nat × Nat)} : Frz (zipT adr as bs) := fun p hp => by
  obtain ⟨i, hi, rfl⟩ := List.getElem_of_mem hp
  simp only [zipT, List.getElem_zipWith]
  exact ⟨fun _ q => (by cases q), by show Value.type "tuple" ≠ Value.type "list_iterator"; decide⟩
def Mov (o : Obj) : Prop := (∃ v, o.data = .cell v) ∨ o.cls = .type "list_iterator"
theorem frz_ne {g h : Heap} {L : Addr} {news T : List (Addr × Obj)} {d : Addr} {o : Obj} (N : News g L h news) (hm : (d, o) ∈ news) (hk : Mov o) (hs : ∀ p ∈ T, p ∈ news) (hT : Frz T) : ∀ p ∈ T, p.1 ≠ d := by
  intro p hp e
  have h1 := (N p (hs p hp)).1
  rw [e, (N _ hm).1] at h1
  have ho : o = p.2 := Option.some.inj h1
  subst ho
  rcases hk with ⟨v, hk⟩ | hk
  · exact (hT p hp).1 v hk
  · exact (hT p hp).2 hk
def itO (x : Int) (t : Tok) (k : Nat) (u : Tok) : Obj := { cls := .type "tuple", data := .seq #[.int x t, .int (k : Int) u] }
def ItsT (r : Nat → Int) (as : List Addr) (T : List (Addr × Obj)) : Prop := ∀ k a, as[k]? = some a → ∃ t u, (a, itO (r k) t k u) ∈ T
theorem ItsT.snoc {r : Nat → Int} {as : List Addr} {T : List (Addr × Obj)} {a : Addr} {t u : Tok} {i : Nat} (h : ItsT r as T) (hi : as.length = i) : ItsT r (as ++ [a]) ((a, itO (r i) t i u) :: T) := fun k b e => by
  subst hi
  by_cases hk : k < as.length
  · rw [List.getElem?_append_left hk] at e
    obtain ⟨t, u, q⟩ := h k b e
    exact ⟨t, u, List.mem_cons_of_mem _ q⟩
  · rw [List.getElem?_append_right (by omega)] at e
    have hk2 : k = as.length := by
      cases q : k - as.length with
      | zero => omega
      | succ j => rw [q] at e; simp at e
    subst hk2
    simp at e
    subst e
    exact ⟨t, u, List.mem_cons_self⟩
def ItemsIn (r : Nat → Int) (n : Nat) (adr : Nat → Addr) (T : List (Addr × Obj)) : Prop := ∀ k, k < n → ∃ t u, (adr k, itO (r k) t k u) ∈ T
theorem ItsT.itemsIn {r : Nat → Int} {n : Nat} {as : List Addr} {T : List (Addr × Obj)} (h : ItsT r as T) (hn : as.length = n) : ItemsIn r n (fun k => as.getD k 0) T := fun k hk =>
  h k _ (by show as[k]? = some (as.getD k 0); rw [List.getD_eq_getElem?_getD, List.getElem?_eq_getElem (by omega)]; rfl)
theorem ItemsIn.mono {r : Nat → Int} {n : Nat} {adr : Nat → Addr} {T T' : List (Addr × Obj)} (h : ItemsIn r n adr T) (hs : ∀ p ∈ T, p ∈ T') : ItemsIn r n adr T' := fun k hk => by
  obtain ⟨t, u, q⟩ := h k hk
  exact ⟨t, u, hs _ q⟩
theorem ItemsIn.its {r : Nat → Int} {n : Nat} {adr : Nat → Addr} {T news : List (Addr × Obj)} {g h : Heap} {L : Addr} (i : ItemsIn r n adr T) (N : News g L h news) (hs : ∀ p ∈ T, p ∈ news) : Its r n adr h := fun k hk => by
  obtain ⟨t, u, q⟩ := i k hk
  exact ⟨t, u, _, (N _ (hs _ q)).1, rfl, 0, rfl⟩
theorem refs_as {as : List Addr} {n : Nat} (hn : as.length = n) : refs (fun k => as.getD k 0) (List.range n) = as.map Value.ref := by
  subst hn
  apply List.ext_getElem
  · simp [refs]
  · intro i h1 h2
    have : i < as.length := by simpa using h2
    simp [refs, List.getD_eq_getElem?_getD, this]
theorem in2 {α : Type} {a b x : α} {T : List α} (h : x ∈ T) : x ∈ a :: b :: T := List.mem_cons_of_mem _ (List.mem_cons_of_mem _ h)
theorem in6 {α : Type} {a b c d e f x : α} {T : List α} (h : x ∈ T) : x ∈ a :: b :: c :: d :: e :: f :: T := in2 (in2 (in2 h))
theorem sub_ints {prog : Program} {w : World} {A : Around} {E : Value → Shared → Prop} {s : Shared} {g : Heap} {L D : Addr} {news : List (Addr × Obj)} {vs : List Value} {e : Nat} {r : Nat → Int} {n : Nat} (i : Nat) {k : Int} {u : Tok} {value slice : Expr} {Q : Value → Shared → Prop} (N : News g L s.heap news)
    (hm : (D, listOf vs.toArray e) ∈ news) (hv : IntL r n vs) (hk : k = (i : Int)) (hi : i < n) (hfit : n ≤ 1000) (h : ∀ t, Q (.int (r i) t) s)
    (hs : subscripted slice false (.ref D) (.int k u) = operate [.ref D, .int k u] (getItem (.ref D) (.int k u)) := by with_unfolding_all rfl) (hg : ∀ r, letTemporaryGo value (.ref D) r = pure () := by intro _; with_unfolding_all rfl) :
    wpAny (model prog w) A (subscriptTail value slice (.ref D) (.int k u)) Q E s := by
  subst hk
  obtain ⟨t, ht⟩ := hv.2 i hi
  exact kim_list N hm rfl rfl (by omega) (by omega) (by rw [Int.toNat_natCast]; exact ht) (h t) hs hg
theorem news_new {g h0 h : Heap} {L a : Addr} {m : Str → Option Value} {o : Obj} (F : Fr g L h0 m) (hn : h0.get? a = none) (e : h.get? a = some o) : h.get? a = some o ∧ a ≠ L ∧ g.get? a = none := by
  refine ⟨e, fun q => ?_, ?_⟩
  · subst q
    obtain ⟨o', es, ep, ho, _⟩ := F.ns
    rw [hn] at ho; cases ho
  · cases q : g.get? a with
    | none => rfl
    | some o' => have := F.keep _ _ q; rw [hn] at this; cases this
theorem news2 {g h0 h : Heap} {L : Addr} {m : Str → Option Value} {c1 c2 : Addr × Obj} {T X : List (Addr × Obj)} (F : Fr g L h0 m) (N : News g L h0 (c1 :: c2 :: T)) (kp : ∀ b o, h0.get? b = some o → h.get? b = some o) (hX : ∀ p ∈ X, h0.get? p.1 = none ∧ h.get? p.1 = some p.2) :
    News g L h (c1 :: c2 :: (X ++ T)) := fun p hp => by
  have old : ∀ p ∈ c1 :: c2 :: T, h.get? p.1 = some p.2 ∧ p.1 ≠ L ∧ g.get? p.1 = none := fun p hp => ⟨kp _ _ (N p hp).1, (N p hp).2⟩
  rcases List.mem_cons.mp hp with rfl | hp
  · exact old _ List.mem_cons_self
  · rcases List.mem_cons.mp hp with rfl | hp
    · exact old _ (List.mem_cons_of_mem _ List.mem_cons_self)
    · rcases List.mem_append.mp hp with hp | hp
      · exact news_new F (hX p hp).1 (hX p hp).2
      · exact old _ (in2 hp)

/-! ## rows sorted by a strict order -/
theorem sorted_uniq {α : Type} {R : α → α → Prop} (as : ∀ a b, R a b → R b a → False) : ∀ {l l' : List α}, l.Perm l' → l.Pairwise R → l'.Pairwise R → l = l'
  | [], l', h, _, _ => (List.nil_perm.mp h).symm
  | a :: l, [], h, _, _ => absurd h.length_eq (by simp)
  | a :: l, b :: m, h, hs, hs' => by
    have e : a = b := by
      have h1 : a ∈ b :: m := h.subset List.mem_cons_self
      have h2 : b ∈ a :: l := h.symm.subset List.mem_cons_self
      rcases List.mem_cons.mp h1 with q | q
      · exact q
      · rcases List.mem_cons.mp h2 with q' | q'
        · exact q'.symm
        · exact (as a b ((List.pairwise_cons.mp hs).1 b q') ((List.pairwise_cons.mp hs').1 a q)).elim
    subst e
    rw [sorted_uniq as ((List.perm_cons _).mp h) (List.pairwise_cons.mp hs).2 (List.pairwise_cons.mp hs').2]
theorem blt_irr (r : Nat → Int) (p : Nat × Nat) : blt r p p = false := by unfold blt; rw [if_pos rfl]; exact (rlt_so r).irr _
theorem blt_tr (r : Nat → Int) {p q s : Nat × Nat} (h : blt r p q = true) (h' : blt r q s = true) : blt r p s = true := by
  unfold blt at h h' ⊢
  by_cases e1 : p.1 = q.1
  · rw [if_pos e1] at h
    by_cases e2 : q.1 = s.1
    · rw [if_pos e2] at h'
      rw [if_pos (e1.trans e2)]
      exact (rlt_so r).tr _ _ _ h h'
    · rw [if_neg e2] at h'
      rw [e1, if_neg e2]; exact h'
  · rw [if_neg e1] at h
    by_cases e2 : q.1 = s.1
    · rw [← e2, if_neg e1]; exact h
    · rw [if_neg e2] at h'
      have hh := (rlt_so r).tr _ _ _ h h'
      have e3 : p.1 ≠ s.1 := (rlt_so r).ne hh
      rw [if_neg e3]; exact hh
theorem blt_tot (r : Nat → Int) {p q : Nat × Nat} (h : p ≠ q) : blt r p q = true ∨ blt r q p = true := by
  unfold blt
  by_cases e1 : p.1 = q.1
  · rw [if_pos e1, if_pos e1.symm]
    exact (rlt_so r).tot _ _ fun e2 => h (Prod.ext e1 e2)
  · rw [if_neg e1, if_neg fun e => e1 e.symm]
    exact (rlt_so r).tot _ _ e1
theorem blt_asymm (r : Nat → Int) {p q : Nat × Nat} (h : blt r p q = true) (h' : blt r q p = true) : False := by
  have := blt_tr r h h'
  rw [blt_irr] at this; cases this
theorem bars_nodup {lt : Nat → Nat → Bool} {n : Nat} {ds : List Nat} (O : SO lt) (h2 : 2 ≤ n) (R : Row lt n ds) : (bruns lt n ds).2.Nodup := by
  have h := (R.nodup O).sublist (R.upto O h2).nodup
  exact (List.pairwise_map.mp h).imp fun h e => h (congrArg _ e)
theorem bars_lt {lt : Nat → Nat → Bool} {n : Nat} {ds : List Nat} (O : SO lt) (h2 : 2 ≤ n) (R : Row lt n ds) {b : Nat × Nat} (hb : b ∈ (bruns lt n ds).2) : b.1 < n ∧ b.2 < n := by
  obtain ⟨x, y⟩ := b
  obtain ⟨h1, h3, _⟩ := ((R.upto O h2).bars x y).mp hb
  exact ⟨h1, R.mem.mp h3⟩
theorem bars_len {lt : Nat → Nat → Bool} {n : Nat} {ds : List Nat} (O : SO lt) (h2 : 2 ≤ n) (R : Row lt n ds) : (bruns lt n ds).2.length ≤ n := by
  have h := (R.upto O h2).nodup.length_le
  rw [List.length_map, R.perm.length_eq, List.length_range] at h
  exact h

theorem getD_pairs {bs : List (Nat × Nat)} {i : Nat} (h : i < bs.length) : bs.getD i (0, 0) = bs[i] := by
  rw [List.getD_eq_getElem?_getD, List.getElem?_eq_getElem h]; rfl
theorem getD_refs {as : List Addr} {i : Nat} (h : i < as.length) : (as.map Value.ref).getD i Value.none = .ref as[i] := by
  rw [List.getD_eq_getElem?_getD, List.getElem?_map, List.getElem?_eq_getElem h]; rfl
theorem zipT_mem {adr : Nat → Addr} {as : List Addr} {bs : List (Nat × Nat)} {i : Nat} (h : i < as.length) (hl : as.length = bs.length) : (as[i], tupO adr bs[i]) ∈ zipT adr as bs := by
  have h' : i < (zipT adr as bs).length := by simp [zipT]; omega
  have e : (zipT adr as bs)[i] = (as[i], tupO adr bs[i]) := by simp [zipT]
  rw [← e]; exact List.getElem_mem h'
theorem zipT_pick {adr : Nat → Addr} {as : List Addr} {bs : List (Nat × Nat)} {p : List Nat} (hl : as.length = bs.length) (hp : ∀ i ∈ p, i < as.length) :
    ∀ q ∈ zipT adr (p.map fun i => as.getD i 0) (p.map fun i => bs.getD i (0, 0)), q ∈ zipT adr as bs := by
  induction p with
  | nil => intro q hq; exact nomatch hq
  | cons i p ih =>
    intro q hq
    rcases List.mem_cons.mp hq with rfl | hq
    · have hi := hp i List.mem_cons_self
      have e1 : as.getD i 0 = as[i] := by rw [List.getD_eq_getElem?_getD, List.getElem?_eq_getElem hi]; rfl
      show (as.getD i 0, tupO adr (bs.getD i (0, 0))) ∈ _
      rw [e1, getD_pairs (by omega)]
      exact zipT_mem hi hl
    · exact ih (fun j hj => hp j (List.mem_cons_of_mem _ hj)) q hq
theorem perm_pick {α : Type} (d : α) : ∀ (l : List α), ((List.range l.length).map fun i => l.getD i d) = l := fun l => by
  apply List.ext_getElem
  · simp
  · intro i h1 h2
    simp [List.getD_eq_getElem?_getD, h2]

section
variable {prog : Program} {w : World} {A : Around} {E : Value → Shared → Prop} {s : Shared} {g : Heap} {L : Addr} {m : Str → Option Value} {news : List (Addr × Obj)}
theorem sort_bars {B : Addr} {r : Nat → Int} {n : Nat} {adr : Nat → Addr} {as : List Addr} {bs : List (Nat × Nat)} {e0 : Nat} {Q : Value → Shared → Prop}
    (F : Fr g L s.heap m) (N : News g L s.heap news) (hB : (B, listOf (as.map Value.ref).toArray e0) ∈ news) (hz : ∀ p ∈ zipT adr as bs, p ∈ news) (hab : as.length = bs.length)
    (hI : Its r n adr s.heap) (hbs : ∀ b ∈ bs, b.1 < n ∧ b.2 < n) (nd : bs.Nodup) (h64 : bs.length < 64) (hu : A.in1.in1.units < cLine)
    (h : ∀ cs as' D h' e, cs.Perm bs → cs.Pairwise (fun p q => blt r p q = true) → as'.length = cs.length → (∀ p ∈ zipT adr as' cs, p ∈ zipT adr as bs) →
      Fr g L h' m → News g L h' ((D, listOf (as'.map Value.ref).toArray e) :: news) → (∀ q ∈ news, q.1 < D) → Q (.ref D) { s with heap := h' }) :
    wpAny (model prog w) A (call (.builtin "sorted") [.ref B]) Q E s := by
  have hlen : (as.map Value.ref).length = bs.length := by rw [List.length_map, hab]
  have tups : ∀ i (hi : i < as.length), s.heap.get? as[i] = some (tupO adr bs[i]) := fun i hi => (N _ (hz _ (zipT_mem hi hab))).1
  refine sorted_S (κ := tuples' false) (L := fun i j => blt r (bs.getD i (0, 0)) (bs.getD j (0, 0))) (PySem.IsL.isList (N _ hB).1) (by rw [hlen]; exact h64) (fun h2 s' kp Q hq => ?_) ?_ (fun s' kp i j hi hj Q hq => ?_) fun p D h' e hp hs kp hD hg => ?_
  · refine kind_tups (T := "tuple") h2 (fun v hv => ?_) hq
    obtain ⟨a, ha, rfl⟩ := List.mem_map.mp hv
    obtain ⟨i, hi, rfl⟩ := List.getElem_of_mem ha
    have hb := hbs bs[i] (List.getElem_mem _)
    obtain ⟨t, u, o, ho, hc, c, hd⟩ := hI _ hb.1
    exact ⟨as[i], _, _, 0, _, rfl, kp _ _ (tups i hi), rfl, rfl, rfl, fun A Q E s k q => wpAny_typeOf ⟨o, k _ _ (kp _ _ ho), hc⟩ q⟩
  · refine ⟨fun i hi => blt_irr r _, fun i j k hi hj hk => blt_tr r, fun i j hi hj hne => blt_tot r fun e => ?_⟩
    rw [hlen] at hi hj
    rw [getD_pairs hi, getD_pairs hj] at e
    rcases Nat.lt_or_gt_of_ne hne with q | q
    · exact (List.pairwise_iff_getElem.mp nd) i j hi hj q e
    · exact (List.pairwise_iff_getElem.mp nd) j i hj hi q e.symm
  · rw [hlen] at hi hj
    have hi' : i < as.length := by omega
    have hj' : j < as.length := by omega
    rw [getD_refs hi', getD_refs hj']
    rw [getD_pairs hi, getD_pairs hj] at hq
    have hIs := hI.keeps kp
    have hb1 := hbs bs[i] (List.getElem_mem _)
    have hb2 := hbs bs[j] (List.getElem_mem _)
    exact key_bars hu ⟨_, kp _ _ (tups i hi'), rfl, 0, rfl⟩ ⟨_, kp _ _ (tups j hj'), rfl, 0, rfl⟩ (hIs _ hb1.1) (hIs _ hb1.2) (hIs _ hb2.1) (hIs _ hb2.2) hq
  · rw [hlen] at hp
    have hpi : ∀ i ∈ p, i < as.length := fun i hi => by have := List.mem_range.mp (hp.subset hi); omega
    have e1 : (p.map fun i => (as.map Value.ref).getD i Value.none) = ((p.map fun i => as.getD i 0)).map Value.ref := by
      rw [List.map_map]
      refine List.map_congr_left fun i hi => ?_
      have := hpi i hi
      simp [List.getD_eq_getElem?_getD, this]
    rw [e1] at hg
    refine h (p.map fun i => bs.getD i (0, 0)) (p.map fun i => as.getD i 0) D h' e ?_ ?_ (by simp) (zipT_pick hab hpi) (F.keeps kp) (fun q hq => ?_) (fun q hq => Nat.lt_of_lt_of_le (Heap.lt_size (N q hq).1) hD)
    · have := hp.map fun i => bs.getD i (0, 0)
      rwa [perm_pick] at this
    · exact List.pairwise_map.mpr hs
    · rcases List.mem_cons.mp hq with rfl | hq
      · exact ⟨hg, Nat.ne_of_gt (Nat.lt_of_lt_of_le F.ns.lt hD), Heap.get?_none_of_le (Nat.le_trans F.above (Nat.le_trans (Nat.le_of_lt F.ns.lt) hD))⟩
      · exact ⟨kp _ _ (N q hq).1, (N q hq).2⟩

theorem ne_bars {D D' : Addr} {adr : Nat → Addr} {as as' : List Addr} {cs : List (Nat × Nat)} {e e' : Nat} {Q : Value → Shared → Prop} (N : News g L s.heap news) (hD : (D, listOf (as.map Value.ref).toArray e) ∈ news) (hD' : (D', listOf (as'.map Value.ref).toArray e') ∈ news)
    (hz : ∀ p ∈ zipT adr as cs, p ∈ news) (hz' : ∀ p ∈ zipT adr as' cs, p ∈ news) (hl : as.length = cs.length) (hl' : as'.length = cs.length) (hu : A.units < cLine) (hu1 : A.in1.units < cLine) (h : Q (.bool false) s) :
    wpAny (model prog w) A (compareOp .NotEq (.ref D) (.ref D')) Q E s := by
  refine cmp_ofNotEq (RcNeAt.lists (e := fun _ => true) (PySem.IsL.isList (N _ hD).1) (PySem.IsL.isList (N _ hD').1) (by simp [hl, hl']) hu (fun j h1 h2 => ?_) prog w _ _ ?_)
  · have h1' : j < as.length := by simpa using h1
    have h2' : j < as'.length := by simpa using h2
    have e1 : ((as.map Value.ref).toArray)[j] = .ref as[j] := by simp
    have e2 : ((as'.map Value.ref).toArray)[j] = .ref as'[j] := by simp
    rw [e1, e2]
    by_cases q : as[j] = as'[j]
    · rw [q]; exact EqAt.same _
    · refine EqAt.of_refs q ?_
      have t1 : IsTup s.heap as[j] #[.ref (adr cs[j].1), .ref (adr cs[j].2)] := ⟨_, (N _ (hz _ (zipT_mem h1' hl))).1, rfl, 0, rfl⟩
      have t2 : IsTup s.heap as'[j] #[.ref (adr cs[j].1), .ref (adr cs[j].2)] := ⟨_, (N _ (hz' _ (zipT_mem h2' hl'))).1, rfl, 0, rfl⟩
      have z := RcAt.tuples (A := A.in1) (s := s) (e := fun _ => true) t1 t2 hu1 (fun x h3 h4 => EqAt.same _)
      have e3 : ((List.range (min #[Value.ref (adr cs[j].1), Value.ref (adr cs[j].2)].size #[Value.ref (adr cs[j].1), Value.ref (adr cs[j].2)].size)).all (fun _ => true) && #[Value.ref (adr cs[j].1), Value.ref (adr cs[j].2)].size == #[Value.ref (adr cs[j].1), Value.ref (adr cs[j].2)].size) = true := by simp
      rw [e3] at z
      exact z
  · have e : (!(List.range (as.map Value.ref).toArray.size).all fun _ => true) = false := by simp
    rw [e]; exact h

theorem sum_exact {l : Addr} {vs : List Value} {ns : List Int} {Q : Value → Shared → Prop} (hh : A.handled = none) (hl : s.heap.IsList l vs.toArray) (hi : IntsAre vs ns)
    (h : ∀ h' tk t', (∀ b o, s.heap.get? b = some o → h'.get? b = some o) → Q (.int ns.sum t') { s with heap := h', toks := tk }) :
    wpAny (model prog w) A (call (.builtin "sum") [.ref l]) Q E s := by
  obtain ⟨xs, e⟩ := hi.allInts.items
  have hns : ns = xs.toList.map (·.1) := by
    rw [← hi.numsOf, ← nums_intItems, ← e]
  rw [e] at hl
  refine sum_intListG hh hl fun h' tk t' hk => ?_
  have e2 : preSum (numAt xs) xs.size = ns.sum := by
    rw [preSum_eq, ← hns, List.take_of_length_le (by rw [hns]; simp)]
  rw [e2]
  exact h h' tk t' hk
end

theorem IntL.ints {r : Nat → Int} {n : Nat} {vs : List Value} (h : IntL r n vs) : IntsAre vs ((List.range n).map r) := by
  obtain ⟨hn, h⟩ := h
  induction n generalizing vs with
  | zero => rw [List.length_eq_zero_iff.mp hn]; exact .nil
  | succ n ih =>
    have hne : vs ≠ [] := by intro q; rw [q] at hn; cases hn
    rw [List.range_succ, List.map_append, ← List.dropLast_concat_getLast hne]
    obtain ⟨t, ht⟩ := h n (Nat.lt_succ_self n)
    have hg : vs.getLast hne = .int (r n) t := by
      rw [List.getLast_eq_getElem]
      rw [List.getElem?_eq_some_iff] at ht
      obtain ⟨_, e⟩ := ht
      rw [← e]; congr 1; omega
    rw [hg]
    refine PyProof.Rows.ksk_snoc (ih (by simp; omega) fun k hk => ?_)
    obtain ⟨u, e⟩ := h k (by omega)
    refine ⟨u, ?_⟩
    rw [List.dropLast_eq_take, List.getElem?_take, if_pos (by omega)]
    exact e

theorem walks_ints {prog : Program} {w : World} {A : Around} {I S : Addr} {r : Nat → Int} {n : Nat} {vs : List Value} (hh : A.handled = none) (hne : S ≠ I) (hv : IntL r n vs) :
    Walks prog w A I [I, S] [I] n (fun i v => ∃ t, v = .int (r i) t) (fun i h => h.IsListIter I S i ∧ h.IsList S vs.toArray) := by
  have e : vs.toArray.size = n := by rw [List.size_toArray, hv.1]
  have W := Walks.list (prog := prog) (w := w) (A := A) hh I S hne vs.toArray
  rw [e] at W
  exact { sub := W.sub, frame := W.frame, done := W.done, self := W.self, item := fun i s Q E hi st hQ => W.item i s Q E hi st fun v h' tk hP => hQ v h' tk (by
    obtain ⟨t, ht⟩ := hv.2 i hi
    rw [List.getElem?_toArray, ht] at hP
    exact ⟨t, (Option.some.inj hP).symm⟩) }

theorem sub_prev {prog : Program} {w : World} {A : Around} {E : Value → Shared → Prop} {s : Shared} {g : Heap} {L D : Addr} {news : List (Addr × Obj)} {vs : List Value} {e : Nat} {r : Nat → Int} {n : Nat} (i : Nat) {k : Int} {u : Tok} {value slice : Expr} {Q : Value → Shared → Prop} (N : News g L s.heap news)
    (hm : (D, listOf vs.toArray e) ∈ news) (hv : IntL r n vs) (hk : k = (i : Int) - 1) (hi : i < n) (hfit : n ≤ 1000) (h : ∀ t, Q (.int (r (pv n i)) t) s)
    (hs : subscripted slice false (.ref D) (.int k u) = operate [.ref D, .int k u] (getItem (.ref D) (.int k u)) := by with_unfolding_all rfl) (hg : ∀ r, letTemporaryGo value (.ref D) r = pure () := by intro _; with_unfolding_all rfl) :
    wpAny (model prog w) A (subscriptTail value slice (.ref D) (.int k u)) Q E s := by
  by_cases h0 : 0 < i
  · rw [pv_of h0 hi] at h
    exact sub_ints (i - 1) N hm hv (by omega) (by omega) hfit h hs hg
  · have hi0 : i = 0 := by omega
    subst hi0
    rw [pv_zero (by omega)] at h
    obtain ⟨t, ht⟩ := hv.2 (n - 1) (by omega)
    have hk' : k = -1 := by omega
    subst hk'
    have hl := hv.1
    refine kim_back N hm rfl rfl (by omega) (by omega) (by omega) ?_ (h t) hs hg
    rw [show ((-1 : Int) + (vs.length : Int)).toNat = n - 1 by omega]
    exact ht
theorem in5 {α : Type} {a b c d e x : α} {T : List α} (h : x ∈ T) : x ∈ a :: b :: c :: d :: e :: T := List.mem_cons_of_mem _ (in2 (in2 h))
end Mine
end

section
open PySem PySem.W PyProof.Rows PySem.Calls PySem.SeqAt
set_option Elab.async false
set_option linter.unusedVariables false
set_option maxRecDepth 100000
set_option maxHeartbeats 8000000
namespace Mine
open LCg LCt
local macro_rules | `(tactic| walk_at "lk") => `(tactic| first | with_reducible assumption | ((try dsimp only); with_reducible refine lkY ?_; with_reducible exact rfl) | ((try dsimp only); with_reducible refine lkN (by decide) ?_; walk_at "lk") | exact rfl)
local macro_rules | `(tactic| walk_at "eval Name") => `(tactic| (k_here; k_dflt (refine' nameX_L ?F ?v ?_ ?a ?b; (case F => with_reducible assumption); (case a => rfl); (case b => rfl); (case v => walk_at "lk"); k_whole)))
local macro_rules | `(tactic| walk_at "w") => `(tactic| ((try dsimp only); (with_reducible show wpAny _ _ _ _ _ _); (fail_if_success (with_reducible show wpAny _ _ (exec (Stmt.While _ _ _ _) _) _ _ _)); (fail_if_success (with_reducible show wpAny _ _ (exec (Stmt.For _ _ _ _ _) _) _ _ _)); (fail_if_success (with_reducible show wpAny _ _ (subscriptTail _ _ (Value.ref _) _) _ _ _)); (fail_if_success (with_reducible show wpAny _ _ (setItem (Value.ref _) _ _) _ _ _)); (fail_if_success (with_reducible show wpAny _ _ (binaryOp Operator.Mult (Value.ref _) _) _ _ _)); (fail_if_success (with_reducible show wpAny _ _ (binaryOp Operator.Mod _ _) _ _ _)); (fail_if_success (with_reducible show wpAny _ _ (call (Value.builtin "list.append") _ _) _ _ _)); (fail_if_success (with_reducible show wpAny _ _ (call (Value.builtin "sorted") _ _) _ _ _)); (fail_if_success (with_reducible show wpAny _ _ (call (Value.builtin "min") _ _) _ _ _)); (fail_if_success (with_reducible show wpAny _ _ (call (Value.builtin "max") _ _) _ _ _)); (fail_if_success (with_reducible show wpAny _ _ (eqBool (Value.ref _) _) _ _ _)); (fail_if_success (with_reducible show wpAny _ _ (eval (Expr.ListComp _ _ _ _) _) _ _ _)); (fail_if_success (with_reducible show wpAny _ _ (compareOp _ (Value.ref _) (Value.ref _)) _ _ _)); (fail_if_success (with_reducible show wpAny _ _ (call (Value.ref _) _ _) _ _ _)); walk1; (try dsimp only)))
local macro_rules | `(tactic| walk_at "ws") => `(tactic| repeat ((fail_if_success (with_reducible show wpAny _ _ (storeName _ _ _) _ _ _)); walk_at "w"))
local macro_rules | `(tactic| walk_at "call builtin:len") => `(tactic| ((with_reducible refine len_refs (by with_reducible assumption) ?_ ?_); (omega)))


local macro_rules | `(tactic| walk_at "my mem") => `(tactic| first | with_reducible exact List.mem_cons_self | (with_reducible refine List.mem_cons_of_mem _ ?_; walk_at "my mem"))
local macro_rules | `(tactic| walk_at "my all") => `(tactic| first
  | ((with_reducible refine List.forall_mem_cons.mpr ⟨?_, ?_⟩); (focus k_ne); walk_at "my all")
  | with_reducible exact List.forall_mem_nil _
  | ((with_reducible refine' zipT_ne ?zN ?zm ?zk ?zs); (case zN => with_reducible assumption); (case zm => walk_at "my mem"); (case zk => first | with_reducible exact NoTup.list | exact NoTup.iter (by with_reducible assumption) | exact NoTup.cell (by with_reducible assumption)); (case zs => (intro p hp; repeat (first | with_reducible exact hp | with_reducible refine List.mem_cons_of_mem _ ?_)))))
local macro_rules | `(tactic| walk_at "my updF") => `(tactic| first | ((with_reducible refine' UpdF.head ?ha); (case ha => walk_at "my all")) | ((with_reducible refine' UpdF.tail ?ta ?tb); (case ta => k_ne); (case tb => walk_at "my updF")))
local macro_rules | `(tactic| walk_at "storeName") => `(tactic| (k_here; k_dflt (refine' storeX_C ?F ?N ?c ?U ?d ?_ ?a ?b; (case b => rfl); (case a => rfl); (case F => with_reducible assumption); (case N => with_reducible assumption); (case c => rfl); (case U => walk_at "my updF"); (case d => with_reducible assumption); k_whole; intro h' o' F' N' d'; (try dsimp only at N'); (try k_sweep))))

local macro_rules | `(tactic| walk_at "ifs") => `(tactic| first | with_reducible refine Eq.mpr (if_pos rfl) ?_ | with_reducible refine Eq.mpr (if_neg Bool.false_ne_true) ?_ | with_reducible refine Eq.mpr (if_neg (show ¬ ((!true) = true) by decide)) ?_ | with_reducible refine Eq.mpr (if_pos (show (!false) = true by decide)) ?_)
local macro_rules | `(tactic| walk_at "wi") => `(tactic| repeat (first | walk_at "w" | walk_at "ifs"))

theorem fillWJ (w : World) (s : Shared) (A : Around) (h : (hd.heap_39 w.params).In s.heap → wpAny (model Challenge.rw_dj5012_01.row.prog w) A (pure ()) (fun _ _ => True) (fun _ _ => False) s) :
   (hd.heap_39 w.params).In s.heap → wpAny (model Challenge.rw_dj5012_01.row.prog w) A (pure ()) (fun _ _ => True) (fun _ _ => False) s := by
  k_fill
  exact h

local macro_rules | `(tactic| walk_at "my all") => `(tactic| first
  | ((with_reducible refine List.forall_mem_cons.mpr ⟨?_, ?_⟩); (focus k_ne); walk_at "my all")
  | with_reducible exact List.forall_mem_nil _
  | ((with_reducible refine' frz_ne ?zN ?zm ?zk ?zs ?zt); (case zN => with_reducible assumption); (case zm => walk_at "my mem"); (case zk => first | exact .inl ⟨_, by with_reducible assumption⟩ | exact .inr (by with_reducible assumption)); (case zs => (intro p hp; repeat (first | with_reducible exact hp | with_reducible refine List.mem_cons_of_mem _ ?_))); (case zt => with_reducible assumption)))

def LawEnd (s₁ : Shared) (f : Flow) (s' : Shared) : Prop := f = .ret (.bool true) ∧ s'.gens = s₁.gens ∧ s'.os = s₁.os ∧ ∀ b o, s₁.heap.get? b = some o → s'.heap.get? b = some o
local macro_rules | `(tactic| walk_at "wl1") => `(tactic| ((fail_if_success (with_reducible show wpAny _ _ (exec (Stmt.Assign _ (Expr.ListComp _ _ _ _) _) _) _ _ _)); (fail_if_success (with_reducible show wpAny _ _ (call (Value.builtin "len") _ _) _ _ _)); (fail_if_success (with_reducible show wpAny _ _ (call (Value.builtin "sum") _ _) _ _ _)); (fail_if_success (with_reducible show wpAny _ _ (call (Value.builtin "abs") _ _) _ _ _)); walk_at "w"))
local macro_rules | `(tactic| walk_at "wl") => `(tactic| repeat (first | walk_at "wl1" | walk_at "ifs"))

theorem all_holds : Challenge.rw_dj5012_01.Holds := hd (by
  k_go0
  (try dsimp only)
  (rename World => w); (rename Shared => s1)
  (rename Fr _ _ _ _ => F); (rename News _ _ _ _ => N0); (rename IntsAre _ _ => hi); (rename Heap.IsList _ _ _ => hSc); (rename Frag.In _ _ => KX); (rename Top _ _ _ _ _ _ => T')
  (rename ¬ _ < _ => h63); (rename CellsAre _ _ _ => XC); (rename Heap.CodeRec _ _ _ => hcd); (rename Dflts _ _ _ _ _ _ => hDf)
  (rename Shared.gens _ = #[] => hgens)
  refine wpAny_mono (Q := LawEnd s1) (E := fun _ _ => False) ?_ (fun f s' q => ?_) fun _ _ q => q.elim
  rotate_left
  · obtain ⟨rfl, e1, e2, e3⟩ := q
    exact ⟨.inl ⟨.bool true, .bool true, [], rfl, raisesW_false (by wrow_none_raised), ReadsW.bool _, by wrow_post, unshared_nil⟩, e3, e2, e1.trans hgens⟩
  (rename Obj.data _ = _ => d2)
  have d2' : Data.cell none = _ := d2.symm
  clear d2
  (rename Obj.data _ = _ => d1)
  have d1' : _ = Data.cell none := d1
  clear d1
  replace d2' := d2'.symm
  have F0 : Fr _ _ _ (fun y => if y = Str.ofString "script" then some _ else none) := F
  have S : Sta w s1.heap _ _ _ := ⟨KX, T'⟩
  (rename Ground _ _ _ _ _ _ _ _ _ => z1); (rename Hook.says _ _ _ => z2); (rename Flt.MathXP _ _ _ => z3); (rename LooseAre _ _ _ => z4); (rename Glob _ _ _ _ _ _ _ _ => z5); (rename Tables _ _ _ _ => z6); (rename TopE _ _ _ _ => z7); (rename TopW _ _ _ => z8); (rename BMod _ _ _ _ _ => z9); (rename Below _ _ _ _ => z10)
  (rename ReadsAllW _ _ _ _ _ _ => y1); (rename Reads _ _ _ _ => y2); (rename Well _ _ _ _ => y3); (rename ReadsAll _ _ _ _ => y4)
  clear XC hcd hDf F z1 z2 z3 z4 z5 z6 z7 z8 z9 z10 y1 y2 y3 y4
  generalize s1.heap.objs.size = L at N0 F0 ⊢
  rename_i h1 tk1 ot oR
  walk_at "wl"
  (rename Fr _ _ _ _ => F1); (rename News _ _ _ _ => N1)
  refine ⟨KX.keeps F1.keep, ?_⟩
  (try dsimp only [List.nil_append, List.cons_append])
  refine wpAny_call ?_
  refine' law_ring_c S ?rst ?rSc hi ?r63 ?rr ?ru ?rh ?rk
  (case rst => exact F1.keep)
  (case rSc => (obtain ⟨o, e, q⟩ := hSc; exact ⟨o, F1.keep _ _ e, q⟩))
  (case r63 => omega)
  (case rr => (show callerA.depth + 1 + 4 < _; decide))
  (case ru => (show callerA.units + 3 + 70 < _; decide))
  (case rh => exact rfl)
  intro h2 tk2 Rg vs2 e2 r n kp2 hRn hRg hv h5 h29
  (try dsimp only)
  have F2 := F1.keeps kp2
  have F1' : Fr s1.heap L h1 _ := F1
  have N2 := N1.grown kp2
  clear F1
  have N3 : News s1.heap L h2 ((L + 1 + 1, ot) :: (L + 1, oR) :: [(Rg, listOf vs2.toArray e2)]) := fun p hp => by
    rcases List.mem_cons.mp hp with rfl | hp
    · exact N2 _ (by walk_at "my mem")
    · rcases List.mem_cons.mp hp with rfl | hp
      · exact N2 _ (by walk_at "my mem")
      · rw [List.mem_singleton.mp hp]; exact news_new F1' hRn hRg
  obtain ⟨T1, hT1⟩ : ∃ T, T = [(Rg, listOf vs2.toArray e2)] := ⟨_, rfl⟩
  have fz1 : Frz T1 := by rw [hT1]; exact Frz.nil.list
  have mR1 : (Rg, listOf vs2.toArray e2) ∈ T1 := by rw [hT1]; exact List.mem_cons_self
  rw [← hT1] at N3
  clear hT1 N1 N2 F1' kp2
  walk_at "wl"
  (rename Fr _ _ _ _ => F3); (rename News _ _ _ _ => N4)
  rename_i _ oR' dR'
  refine LCg.Assign_ListComp_U (F₀ := F3) (by rfl) (by with_unfolding_all rfl) (by rfl) (by decide) (by rfl) (by decide) (by rfl) (by rfl) (by rfl) ?_
  walk_at "wl"
  refine len_list (PySem.IsL.isList (N4 _ (List.mem_cons_of_mem _ (List.mem_cons_of_mem _ mR1))).1) (by rw [List.size_toArray, hv.1]; omega) ?_
  (try dsimp only)
  rw [List.size_toArray, hv.1]
  walk_at "wl"
  (rename Fr _ _ _ _ => F5); (rename News _ _ _ _ => N5); (rename IsRange _ _ _ _ _ _ _ _ => hR)
  refine LCg.CompSrc.range (n := n) rfl F5 N5 hR (small_n (by omega)) (range_n n) (by rw [sizeLine_eq]; omega) ?_
  intro g2
  refine comp_inv n (fun i ys news => ∃ T, news = (L + 1 + 1, ot) :: (L + 1, oR') :: T ∧ Frz T ∧ (∀ p ∈ T1, p ∈ T) ∧ ∃ as : List Addr, ys = as.map Value.ref ∧ as.length = i ∧ ItsT r as T) ?_ ?_ _ 0 [] _ (by omega) ⟨T1, rfl, fz1, fun _ h => h, [], rfl, rfl, fun k a e => by simp at e⟩
  · rintro i ys news v I2 oI2 C oC D2 m₂ h2' tk2 E' hi' ⟨T, rfl, fz, sub, as, rfl, has, hit⟩ ⟨tv, rfl⟩ hC hx2 F7 N7 off ne
    have e0 : (0 : Int) + ((i : Nat) : Int) = ((i : Nat) : Int) := Int.zero_add _
    rw [e0] at hx2
    clear F5 N5
    (try clear F3 N4)
    walk_at "wl"
    (rename News _ _ _ _ => N8)
    refine sub_ints i N8 (List.mem_cons_of_mem _ (List.mem_cons_of_mem _ (List.mem_cons_of_mem _ (List.mem_cons_of_mem _ (List.mem_cons_of_mem _ (sub _ mR1)))))) hv rfl hi' (by omega) ?_
    intro tr
    (try dsimp only)
    walk_at "wl"
    (rename Fr _ _ _ _ => F9); (rename News _ _ _ _ => N9)
    rename_i D9 h9 l9
    refine CompEnd.intro F9 N9 ((L + 1 + 1, ot) :: (L + 1, oR') :: (D9, itO (r i) tr i tv) :: T) (fun p hp => ?_) (Off3.of fun p hp => ?_) trivial ⟨_, rfl, Frz.cons (fun _ q => (by cases q)) (by show Value.type "tuple" ≠ Value.type "list_iterator"; decide) fz, fun p hp => List.mem_cons_of_mem _ (sub p hp), as ++ [D9], by rw [List.map_append]; rfl, by rw [List.length_append, has]; rfl, hit.snoc has⟩
    · iterate 5 (rcases List.mem_cons.mp hp with rfl | hp; · walk_at "my mem")
      rcases List.mem_cons.mp hp with rfl | hp
      · exact List.mem_cons_self
      · exact List.mem_cons_of_mem _ (List.mem_cons_of_mem _ (List.mem_cons_of_mem _ (List.mem_cons_of_mem _ (List.mem_cons_of_mem _ (List.mem_cons_of_mem _ hp)))))
    · rcases List.mem_cons.mp hp with rfl | hp
      · exact off.mem _ List.mem_cons_self
      · rcases List.mem_cons.mp hp with rfl | hp
        · exact off.mem _ (List.mem_cons_of_mem _ List.mem_cons_self)
        · rcases List.mem_cons.mp hp with rfl | hp
          · exact ⟨Nat.ne_of_gt l9.1, Nat.ne_of_gt l9.2.1, Nat.ne_of_gt l9.2.2.1⟩
          · exact off.mem _ (List.mem_cons_of_mem _ (List.mem_cons_of_mem _ hp))
  · rintro ys news ⟨T, rfl, fz, sub, as, rfl, has, hit⟩
    unfold LCg.FinA
    intro D h10 tk10 F10 N10 oD
    (try dsimp only)
    (try clear F5 N5)
    (try clear F3 N4)
    walk_at "wl"
    (rename Fr _ _ _ _ => F11); (rename News _ _ _ _ => N11)
    have rI : refs (fun k => as.getD k 0) (List.range n) = as.map Value.ref := refs_as has
    have iI := hit.itemsIn has
    generalize (fun k => as.getD k 0) = adr at rI iI
    rw [← rI] at N11
    obtain ⟨T2, hT2⟩ : ∃ T', T' = (D, lst (refs adr (List.range n))) :: T := ⟨_, rfl⟩
    have fz2 : Frz T2 := by rw [hT2]; exact Frz.list fz
    have mI2 : (D, lst (refs adr (List.range n))) ∈ T2 := by rw [hT2]; exact List.mem_cons_self
    have mR2 : (Rg, listOf vs2.toArray e2) ∈ T2 := by rw [hT2]; exact List.mem_cons_of_mem _ (sub _ mR1)
    have iI2 : ItemsIn r n adr T2 := iI.mono fun p hp => by rw [hT2]; exact List.mem_cons_of_mem _ hp
    have N12 : News s1.heap L h10 ((L + 1 + 1, ot) :: (L + 1, oR') :: T2) := fun p hp => by
      rcases List.mem_cons.mp hp with rfl | hp
      · exact N11 _ (by walk_at "my mem")
      · rcases List.mem_cons.mp hp with rfl | hp
        · exact N11 _ (by walk_at "my mem")
        · rw [hT2] at hp
          rcases List.mem_cons.mp hp with rfl | hp
          · exact N11 _ (by walk_at "my mem")
          · exact N11 _ (List.mem_cons_of_mem _ (List.mem_cons_of_mem _ (List.mem_cons_of_mem _ hp)))
    clear N11 hT2 rI iI mR1 fz1 sub fz hit has oD
    refine ⟨KX.keeps F11.keep, ?_⟩
    (try dsimp only [List.nil_append, List.cons_append])
    refine wpAny_call ?_
    refine' law_from_c (r := r) (n := n) (adr := adr) (It := D) S ?bst ?bIt (by omega) (by omega) ?bI ?br ?bu ?bh ?bk
    (case bst => exact F11.keep)
    (case bIt => exact (N12 _ (in2 mI2)).1)
    (case bI => exact iI2.its N12 (fun p hp => in2 hp))
    (case br => (show callerA.depth + 1 + 4 < _; decide))
    (case bu => (show callerA.units + 3 + 70 < _; decide))
    (case bh => exact rfl)
    intro h13 tk13 B eB asB ds kp13 hBn rowB hab hB hT hTn
    (try dsimp only)
    have N13 := news2 F11 N12 kp13 (X := (B, listOf (asB.map Value.ref).toArray eB) :: zipT adr asB (bruns (rlt r) n ds).2) (fun p hp => by
      rcases List.mem_cons.mp hp with rfl | hp
      · exact ⟨hBn, hB⟩
      · exact ⟨hTn p hp, hT p hp⟩)
    have F13 := F11.keeps kp13
    obtain ⟨T3, hT3⟩ : ∃ T', T' = (B, listOf (asB.map Value.ref).toArray eB) :: zipT adr asB (bruns (rlt r) n ds).2 ++ T2 := ⟨_, rfl⟩
    have fz3 : Frz T3 := by rw [hT3]; exact Frz.append (Frz.list frz_zipT) fz2
    have mB3 : (B, listOf (asB.map Value.ref).toArray eB) ∈ T3 := by rw [hT3]; exact List.mem_cons_self
    have zB3 : ∀ p ∈ zipT adr asB (bruns (rlt r) n ds).2, p ∈ T3 := fun p hp => by rw [hT3]; exact List.mem_append_left _ (List.mem_cons_of_mem _ hp)
    have s23 : ∀ p ∈ T2, p ∈ T3 := fun p hp => by rw [hT3]; exact List.mem_append_right _ hp
    rw [← hT3] at N13
    clear hT3 hT hTn hB hBn N12 F11 kp13
    walk_at "wl"
    (rename Fr _ _ _ _ => F14); (rename News _ _ _ _ => N14)
    refine ⟨KX.keeps F14.keep, ?_⟩
    (try dsimp only [List.nil_append, List.cons_append])
    refine wpAny_call ?_
    refine' law_fromM_c (r := r) (n := n) (adr := adr) (It := D) S ?cst ?cIt (by omega) (by omega) ?cI ?cr ?cu ?ch ?ck
    (case cst => exact F14.keep)
    (case cIt => exact (N14 _ (in2 (s23 _ mI2))).1)
    (case cI => exact iI2.its N14 (fun p hp => in2 (s23 _ hp)))
    (case cr => (show callerA.depth + 1 + 4 < _; decide))
    (case cu => (show callerA.units + 3 + 70 < _; decide))
    (case ch => exact rfl)
    intro h15 tk15 C eC asC es kp15 hCn rowC hac hC' hT hTn
    (try dsimp only)
    have N15 := news2 F14 N14 kp15 (X := (C, listOf (asC.map Value.ref).toArray eC) :: zipT adr asC (bruns (rgt r) n es).2) (fun p hp => by
      rcases List.mem_cons.mp hp with rfl | hp
      · exact ⟨hCn, hC'⟩
      · exact ⟨hTn p hp, hT p hp⟩)
    have F15 := F14.keeps kp15
    obtain ⟨T4, hT4⟩ : ∃ T', T' = (C, listOf (asC.map Value.ref).toArray eC) :: zipT adr asC (bruns (rgt r) n es).2 ++ T3 := ⟨_, rfl⟩
    have fz4 : Frz T4 := by rw [hT4]; exact Frz.append (Frz.list frz_zipT) fz3
    have mC4 : (C, listOf (asC.map Value.ref).toArray eC) ∈ T4 := by rw [hT4]; exact List.mem_cons_self
    have zC4 : ∀ p ∈ zipT adr asC (bruns (rgt r) n es).2, p ∈ T4 := fun p hp => by rw [hT4]; exact List.mem_append_left _ (List.mem_cons_of_mem _ hp)
    have s34 : ∀ p ∈ T3, p ∈ T4 := fun p hp => by rw [hT4]; exact List.mem_append_right _ hp
    rw [← hT4] at N15
    have mR4 := s34 _ (s23 _ mR2)
    have mB4 := s34 _ mB3
    have zB4 : ∀ p ∈ zipT adr asB (bruns (rlt r) n ds).2, p ∈ T4 := fun p hp => s34 _ (zB3 p hp)
    have iI4 := iI2.mono (fun p hp => s34 _ (s23 p hp))
    clear hT4 hT hTn hC' hCn N14 F14 kp15 s34 s23 zB3 mB3 fz3 fz2 mI2 mR2 iI2
    walk_at "wl"
    (rename Fr _ _ _ _ => F16); (rename News _ _ _ _ => N16)
    have h2n : 2 ≤ n := by omega
    have lB := bars_len (rlt_so r) h2n rowB
    have lC : (bruns (rgt r) n es).2.length ≤ n := bars_len (rlt_so r).flip h2n rowC
    have bB := fun b hb => bars_lt (b := b) (rlt_so r) h2n rowB hb
    have bC : ∀ b ∈ (bruns (rgt r) n es).2, b.1 < n ∧ b.2 < n := fun b hb => bars_lt (b := b) (rlt_so r).flip h2n rowC hb
    have hsw : (bruns (rlt r) n ds).2.Perm ((bruns (rgt r) n es).2.map fun p => (p.2, p.1)) := bars_swap (rlt_so r) h2n rowB rowC
    have ndB := bars_nodup (rlt_so r) h2n rowB
    refine' sort_bars (r := r) (n := n) (adr := adr) F16 N16 (in2 mB4) (fun p hp => in2 (zB4 p hp)) hab (iI4.its N16 (fun p hp => in2 hp)) bB ndB (by omega) ?du ?_
    (case du => (show callerA.units + 3 + 1 + 1 < _; decide))
    intro cs asD D1 h17 e17 pD sD lD zD F17 N17 l17
    (try dsimp only)
    obtain ⟨T5, hT5⟩ : ∃ T', T' = (D1, listOf (asD.map Value.ref).toArray e17) :: T4 := ⟨_, rfl⟩
    have fz5 : Frz T5 := by rw [hT5]; exact Frz.list fz4
    have mD5 : (D1, listOf (asD.map Value.ref).toArray e17) ∈ T5 := by rw [hT5]; exact List.mem_cons_self
    have s45 : ∀ p ∈ T4, p ∈ T5 := fun p hp => by rw [hT5]; exact List.mem_cons_of_mem _ hp
    have N18 : News s1.heap L h17 ((L + 1 + 1, ot) :: (L + 1, oR') :: T5) := fun p hp => by
      rw [hT5] at hp
      rcases List.mem_cons.mp hp with rfl | hp
      · exact N17 _ (by walk_at "my mem")
      · rcases List.mem_cons.mp hp with rfl | hp
        · exact N17 _ (by walk_at "my mem")
        · rcases List.mem_cons.mp hp with rfl | hp
          · exact N17 _ (by walk_at "my mem")
          · exact N17 _ (List.mem_cons_of_mem _ (in2 hp))
    clear hT5 N17 l17 N16 F16
    walk_at "wl"
    refine LCg.ListComp_U (F₀ := F17) (by with_unfolding_all rfl) (by decide) (by rfl) (by decide) (by rfl) ?_
    walk_at "wl"
    refine LCg.CompSrc.ledger rfl F17 N18 (in2 (s45 _ mC4)) (by rw [List.size_toArray, List.length_map, hac, sizeLine_eq]; omega) ?_
    intro g3
    have iI5 := iI4.mono s45
    refine comp_inv asC.length (fun i ys news => ∃ T, news = (L + 1 + 1, ot) :: (L + 1, oR') :: T ∧ Frz T ∧ (∀ p ∈ T5, p ∈ T) ∧ ∃ as : List Addr, ys = as.map Value.ref ∧ as.length = i ∧ (∀ p ∈ zipT adr as (((bruns (rgt r) n es).2.take i).map fun b => (b.2, b.1)), p ∈ T)) ?_ ?_ _ 0 [] _ (by rw [List.size_toArray, List.length_map]; omega) ⟨T5, rfl, fz5, fun _ h => h, [], rfl, rfl, fun p hp => nomatch hp⟩
    · rintro i ys news v I2 oI2 C2 oC D2 m₂ h2' tk2 E' hi' ⟨T, rfl, fz, sub, as, rfl, has, hit⟩ hP hC hx2 F18 N19 off ne
      rw [List.getElem?_toArray, List.getElem?_map, List.getElem?_eq_getElem hi'] at hP
      replace hP : Value.ref asC[i] = v := Option.some.inj hP
      subst hP
      clear F17 N18
      walk_at "wl"
      (rename News _ _ _ _ => N20)
      have tC := zipT_at (i := i) N20 (fun p hp => List.mem_cons_of_mem _ (List.mem_cons_of_mem _ (List.mem_cons_of_mem _ (in2 (sub p (s45 p (zC4 p hp))))))) hi' hac
      refine sub_bar1 tC ?_
      (try dsimp only)
      walk_at "wl"
      (rename News _ _ _ _ => N21)
      have tC2 := zipT_at (i := i) N21 (fun p hp => List.mem_cons_of_mem _ (List.mem_cons_of_mem _ (List.mem_cons_of_mem _ (in2 (sub p (s45 p (zC4 p hp))))))) hi' hac
      refine sub_bar0 tC2 ?_
      (try dsimp only)
      walk_at "wl"
      (rename Fr _ _ _ _ => F22); (rename News _ _ _ _ => N22)
      rename_i D9 h9 l9
      refine CompEnd.intro F22 N22 ((L + 1 + 1, ot) :: (L + 1, oR') :: (D9, tupO adr ((bruns (rgt r) n es).2[i].2, (bruns (rgt r) n es).2[i].1)) :: T) (fun p hp => ?_) (Off3.of fun p hp => ?_) (.inr ⟨_, in2 (List.mem_cons_of_mem _ (sub _ (s45 _ mC4))), rfl, _, rfl⟩) ⟨_, rfl, Frz.cons (fun _ q => (by cases q)) (by show Value.type "tuple" ≠ Value.type "list_iterator"; decide) fz, fun p hp => List.mem_cons_of_mem _ (sub p hp), as ++ [D9], by rw [List.map_append]; rfl, by rw [List.length_append, has]; rfl, fun p hp => ?_⟩
      · iterate 5 (rcases List.mem_cons.mp hp with rfl | hp; · walk_at "my mem")
        rcases List.mem_cons.mp hp with rfl | hp
        · exact List.mem_cons_self
        · exact List.mem_cons_of_mem _ (List.mem_cons_of_mem _ (List.mem_cons_of_mem _ (List.mem_cons_of_mem _ (in2 hp))))
      · rcases List.mem_cons.mp hp with rfl | hp
        · exact off.mem _ List.mem_cons_self
        · rcases List.mem_cons.mp hp with rfl | hp
          · exact off.mem _ (List.mem_cons_of_mem _ List.mem_cons_self)
          · rcases List.mem_cons.mp hp with rfl | hp
            · exact ⟨Nat.ne_of_gt l9.1, Nat.ne_of_gt l9.2.1, Nat.ne_of_gt l9.2.2.1⟩
            · exact off.mem _ (List.mem_cons_of_mem _ (List.mem_cons_of_mem _ hp))
      · rw [take_map_snoc (fun b : Nat × Nat => (b.2, b.1)) (bruns (rgt r) n es).2 i (0, 0) (by omega), getD_pairs (by omega), zipT_snoc (by simp; omega)] at hp
        rcases List.mem_append.mp hp with hp | hp
        · exact List.mem_cons_of_mem _ (hit p hp)
        · rw [List.mem_singleton.mp hp]; exact List.mem_cons_self
    · rintro ys news ⟨T, rfl, fz, sub, as, rfl, has, hit⟩
      unfold LCg.FinE
      intro D3 h23 tk23 F23 N23 oD3
      (try dsimp only)
      (try clear F17 N18)
      rw [List.take_of_length_le (by omega)] at hit
      walk_at "wl"
      obtain ⟨T6, hT6⟩ : ∃ T', T' = (D3, lst (as.map Value.ref)) :: T := ⟨_, rfl⟩
      have fz6 : Frz T6 := by rw [hT6]; exact Frz.list fz
      have mE6 : (D3, lst (as.map Value.ref)) ∈ T6 := by rw [hT6]; exact List.mem_cons_self
      have s56 : ∀ p ∈ T5, p ∈ T6 := fun p hp => by rw [hT6]; exact List.mem_cons_of_mem _ (sub p hp)
      have hit6 : ∀ p ∈ zipT adr as ((bruns (rgt r) n es).2.map fun b => (b.2, b.1)), p ∈ T6 := fun p hp => by rw [hT6]; exact List.mem_cons_of_mem _ (hit p hp)
      have N24 : News s1.heap L h23 ((L + 1 + 1, ot) :: (L + 1, oR') :: T6) := fun p hp => by
        rw [hT6] at hp
        rcases List.mem_cons.mp hp with rfl | hp
        · exact N23 _ (by walk_at "my mem")
        · rcases List.mem_cons.mp hp with rfl | hp
          · exact N23 _ (by walk_at "my mem")
          · rcases List.mem_cons.mp hp with rfl | hp
            · exact N23 _ (by walk_at "my mem")
            · exact N23 _ (List.mem_cons_of_mem _ (in2 hp))
      clear hT6 N23 oD3
      refine' sort_bars (r := r) (n := n) (adr := adr) (as := as) (bs := (bruns (rgt r) n es).2.map fun b => (b.2, b.1)) F23 N24 (in2 mE6) (fun p hp => in2 (hit6 p hp)) (by rw [List.length_map]; omega) (iI5.its N24 (fun p hp => in2 (s56 p hp))) ?eb ?en (by rw [List.length_map]; omega) ?eu ?_
      (case eb => (intro b hb; obtain ⟨c, hc, rfl⟩ := List.mem_map.mp hb; exact ⟨(bC c hc).2, (bC c hc).1⟩))
      (case en => exact hsw.nodup_iff.mp ndB)
      (case eu => (show callerA.units + 3 + 1 + 1 < _; decide))
      intro cs' asE D4 h25 e25 pE sE lE zE F25 N25 l25
      (try dsimp only)
      walk_at "wl"
      have hcs : cs = cs' := sorted_uniq (fun a b => blt_asymm r) (pD.trans (hsw.trans pE.symm)) sD sE
      subst hcs
      refine' ne_bars (adr := adr) (as := asD) (as' := asE) (cs := cs) N25 (List.mem_cons_of_mem _ (in2 (s56 _ mD5))) List.mem_cons_self (fun p hp => List.mem_cons_of_mem _ (in2 (s56 _ (s45 _ (zB4 _ (zD p hp)))))) (fun p hp => List.mem_cons_of_mem _ (in2 (hit6 _ (zE p hp)))) lD lE ?eu2 ?eu3 ?_
      (case eu2 => (show callerA.units + 3 < _; decide))
      (case eu3 => (show callerA.units + 3 + 1 < _; decide))
      have mR6 := s56 _ (s45 _ mR4)
      have mB6 := s56 _ (s45 _ mB4)
      have zB6 : ∀ p ∈ zipT adr asB (bruns (rlt r) n ds).2, p ∈ T6 := fun p hp => s56 _ (s45 _ (zB4 p hp))
      have iI6 := iI5.mono s56
      (try dsimp only)
      walk_at "wl"
      have N26 : News s1.heap L h25 ((L + 1 + 1, ot) :: (L + 1, oR') :: T6) := fun p hp => N25 p (List.mem_cons_of_mem _ hp)
      clear N25 l25 N24 F23 mE6 hit6 zE pE sE lE iI5 s56 s45 mD5 fz5 zD pD sD lD iI4 zB4 mB4 mR4 zC4 mC4 fz4 hsw ndB bC lC hac sub hit fz has
      refine wpAny_For ?_ (by intro _; with_unfolding_all rfl)
      walk_at "wl"
      refine wpAny_pyIter_list (PySem.IsL.isList (N26 _ (in2 mR6)).1) ?_
      (try dsimp only)
      have F27 := F25.push (liObj Rg 0)
      have N27 := N26.push F25 (liObj Rg 0)
      have hgI := F25.fresh
      have hLI := Nat.ne_of_lt F25.ns.lt
      have ltt : @LT.lt Nat _ (L + 1 + 1) h25.objs.size := Heap.lt_size (N26 _ List.mem_cons_self).1
      have ltr : @LT.lt Nat _ (L + 1) h25.objs.size := Heap.lt_size (N26 _ (List.mem_cons_of_mem _ List.mem_cons_self)).1
      have ltR : @LT.lt Nat _ Rg h25.objs.size := Heap.lt_size (N26 _ (in2 mR6)).1
      generalize hIa : h25.objs.size = I at F27 N27 hgI hLI ltt ltr ltR ⊢
      clear F25 N26
      obtain ⟨J, hJ⟩ : ∃ J : Nat → Shared → Prop, J = (fun i s' => ∃ h tk m ot' oI v, s' = { s1 with heap := h, toks := tk } ∧ Fr s1.heap L h m ∧ News s1.heap L h ((I, oI) :: (L + 1 + 1, ot') :: (L + 1, oR') :: T6) ∧
        (oI.cls = .type "list_iterator" ∧ oI.data = .fields #[.ref Rg, .int (i : Nat) 0]) ∧ ot'.data = .cell v ∧ m (Str.ofString "below") = some (.ref B)) := ⟨_, rfl⟩
      refine for_walks (walks_ints (A := callerA.deeper _) (n := n) rfl (Nat.ne_of_lt ltR) hv) J ?_ ?_ ?_ ?_
      · rw [hJ]
        exact ⟨_, _, _, ot, liObj Rg 0, none, rfl, F27, N27, ⟨rfl, rfl⟩, d1', by walk_at "lk"⟩
      · intro i s' hj
        rw [hJ] at hj
        obtain ⟨h, tk, m, ot', oI, v, rfl, F6, N6, ⟨oI1, oI2⟩, c1, m1⟩ := hj
        exact ⟨⟨oI, (N6 (I, oI) List.mem_cons_self).1, oI1, oI2⟩, PySem.IsL.isList (N6 _ (List.mem_cons_of_mem _ (in2 mR6))).1⟩
      · intro j s' v h28 tk28 hjn hj hP hSt hkp
        rw [hJ] at hj
        obtain ⟨h, tk, m, ot', oI, vt, rfl, F6, N6, ⟨oI1, oI2⟩, c1, m1⟩ := hj
        obtain ⟨tj, rfl⟩ := hP
        obtain ⟨⟨oI', hoI, oI1', oI2'⟩, _⟩ := hSt
        (try dsimp only at hkp ⊢)
        have F28 := frKp F6 hkp (by simpa using hLI) (by simpa using hgI)
        have N28 := news_first N6 hkp hoI (List.forall_mem_cons.mpr ⟨Nat.ne_of_lt ltt, List.forall_mem_cons.mpr ⟨Nat.ne_of_lt ltr, frz_ne N6 List.mem_cons_self (.inr oI1) (fun p hp => List.mem_cons_of_mem _ (in2 hp)) fz6⟩⟩)
        clear F6 N6 F27 N27 hkp
        walk_at "wl"
        (rename Fr _ _ _ _ => F29); (rename News _ _ _ _ => N29)
        rename_i _ ot2 dt2
        refine LCt.Assign_ListComp_T (F₀ := F29) (by rfl) (by with_unfolding_all rfl) (by rfl) (by decide) (by rfl) (by decide) (by rfl) (by rfl) (by rfl) ?_
        walk_at "wl"
        refine LCt.CompSrcT.ledger rfl F29 N29 (List.mem_cons_of_mem _ (in2 mB6)) (by rw [List.size_toArray, List.length_map, hab, sizeLine_eq]; omega) ?_
        intro g4
        refine compT_inv asB.length (fun i ys news => news = (I, oI') :: (L + 1 + 1, ot2) :: (L + 1, oR') :: T6 ∧ ys.length = (((bruns (rlt r) n ds).2.take i).filter fun b => decide (r b.1 ≤ r j) && decide (r j < r b.2)).length) ?_ ?_ _ 0 [] _ (by rw [List.size_toArray, List.length_map]; omega) ⟨rfl, rfl⟩
        · rintro i ys news v I2 oI2 C2 oC D2 m₂ h2' tk2 E' hi' ⟨rfl, hys⟩ hP hC hx2 F30 N30 off ne
          rw [List.getElem?_toArray, List.getElem?_map, List.getElem?_eq_getElem hi'] at hP
          replace hP : Value.ref asB[i] = v := Option.some.inj hP
          subst hP
          clear F29 N29
          have hib : i < (bruns (rlt r) n ds).2.length := by omega
          have hbi := bB _ (List.getElem_mem hib)
          walk_at "wl"
          (rename News _ _ _ _ => N31)
          refine sub_bar0 (zipT_at (i := i) N31 (fun p hp => in6 (zB6 p hp)) hi' hab) ?_
          (try dsimp only)
          walk_at "wl"
          (rename News _ _ _ _ => N32)
          refine PySem.W.kba_turn (value' := PySem.Expr.Name (PySem.Str.ofString "_") ⟨0, 0, 0, 0⟩) (fun _ => rfl) ?_
          refine sub_item0 (iI6.its N32 (fun p hp => in6 hp) _ hbi.1) ?_
          intro u1
          (try dsimp only)
          walk_at "wl"
          have hfil : (((bruns (rlt r) n ds).2.take (i + 1)).filter fun b => decide (r b.1 ≤ r j) && decide (r j < r b.2)) = (((bruns (rlt r) n ds).2.take i).filter fun b => decide (r b.1 ≤ r j) && decide (r j < r b.2)) ++ ([(bruns (rlt r) n ds).2[i]].filter fun b => decide (r b.1 ≤ r j) && decide (r j < r b.2)) := by
            rw [List.take_add_one, List.getElem?_eq_getElem hib, List.filter_append]; rfl
          by_cases q1 : r (bruns (rlt r) n ds).2[i].1 ≤ r j
          · rw [decide_eq_true q1]
            walk_at "wl"
            (rename News _ _ _ _ => N33)
            refine sub_bar1 (zipT_at (i := i) N33 (fun p hp => in6 (zB6 p hp)) hi' hab) ?_
            (try dsimp only)
            walk_at "wl"
            (rename News _ _ _ _ => N34)
            refine PySem.W.kba_turn (value' := PySem.Expr.Name (PySem.Str.ofString "_") ⟨0, 0, 0, 0⟩) (fun _ => rfl) ?_
            refine sub_item0 (iI6.its N34 (fun p hp => in6 hp) _ hbi.2) ?_
            intro u2
            (try dsimp only)
            walk_at "wl"
            by_cases q2 : r j < r (bruns (rlt r) n ds).2[i].2
            · rw [decide_eq_true q2]
              walk_at "wl"
              (rename Fr _ _ _ _ => F35); (rename News _ _ _ _ => N35)
              exact CompEnd.intro F35 N35 _ (fun p hp => hp) off (.inr ⟨_, List.mem_cons_of_mem _ (in2 mB6), rfl, _, rfl⟩) ⟨rfl, by rw [hfil, List.length_append, List.length_append, hys]; simp [q1, q2]⟩
            · rw [decide_eq_false q2]
              walk_at "wl"
              (rename Fr _ _ _ _ => F35); (rename News _ _ _ _ => N35)
              exact CompEnd.intro F35 N35 _ (fun p hp => hp) off (.inr ⟨_, List.mem_cons_of_mem _ (in2 mB6), rfl, _, rfl⟩) ⟨rfl, by rw [hfil, List.length_append, hys]; simp [q2]⟩
          · rw [decide_eq_false q1]
            walk_at "wl"
            (rename Fr _ _ _ _ => F35); (rename News _ _ _ _ => N35)
            exact CompEnd.intro F35 N35 _ (fun p hp => hp) off (.inr ⟨_, List.mem_cons_of_mem _ (in2 mB6), rfl, _, rfl⟩) ⟨rfl, by rw [hfil, List.length_append, hys]; simp [q1]⟩
        · rintro ys news ⟨rfl, hys⟩
          unfold LCg.FinA
          intro D5 h36 tk36 F36 N36 oD5
          (try dsimp only)
          (try clear F29 N29)
          rw [List.take_of_length_le (by omega)] at hys
          walk_at "wl"
          have hcnt := count_stretches (rlt_so r) (rlt_le r) h2n rowB (t := r j) ⟨j, hjn, rfl⟩
          have hfl : ((bruns (rlt r) n ds).2.filter fun b => decide (r b.1 ≤ r j) && decide (r j < r b.2)).length ≤ n := Nat.le_trans (List.length_filter_le _ _) lB
          generalize ((bruns (rlt r) n ds).2.filter fun b => decide (r b.1 ≤ r j) && decide (r j < r b.2)).length = c at hcnt hys hfl
          refine ⟨KX.keeps F36.keep, ?_⟩
          (try dsimp only [List.nil_append, List.cons_append])
          refine wpAny_call ?_
          refine' law_stretches_c S ?lst (N36 _ (List.mem_cons_of_mem _ (List.mem_cons_of_mem _ (in2 mR6)))).1 hv h2n (by omega) ?lr ?lu rfl ?lk
          (case lst => exact F36.keep)
          (case lr => (show callerA.depth + 1 + 4 < _; decide))
          (case lu => (show callerA.units + 3 + 70 < _; decide))
          rw [hcnt]
          intro h37 tk37 tk38 kp37
          (try dsimp only)
          have F37 := F36.keeps kp37
          have N37 := N36.grown kp37
          clear F36 N36 kp37
          walk_at "wl"
          refine len_list (PySem.IsL.isList (N37 _ List.mem_cons_self).1) (by rw [List.size_toArray, hys]; omega) ?_
          (try dsimp only)
          rw [List.size_toArray, hys]
          walk_at "wl"
          have hne : (((c + 1 : Nat) : Int) != (c : Int) + 1) = false := by simp
          refine Eq.mpr (if_neg (by rw [hne]; exact Bool.false_ne_true)) ?_
          walk_at "wl"
          rw [hJ]
          exact ⟨_, _, _, ot2, oI', _, rfl, F37, fun p hp => N37 p (List.mem_cons_of_mem _ hp), ⟨oI1', oI2'⟩, dt2, by walk_at "lk"⟩
      · intro s' h38 tk38 hj hkp
        rw [hJ] at hj
        obtain ⟨h, tk, m, ot', oI, vt, rfl, F6, N6, ⟨oI1, oI2⟩, c1, m1⟩ := hj
        (try dsimp only at hkp ⊢)
        have F39 := frKp F6 hkp (by simpa using hLI) (by simpa using hgI)
        have N39 : News s1.heap L h38 ((L + 1 + 1, ot') :: (L + 1, oR') :: T6) := fun p hp => by
          have hne : ∀ p ∈ (L + 1 + 1, ot') :: (L + 1, oR') :: T6, p.1 ≠ I := List.forall_mem_cons.mpr ⟨Nat.ne_of_lt ltt, List.forall_mem_cons.mpr ⟨Nat.ne_of_lt ltr, frz_ne N6 List.mem_cons_self (.inr oI1) (fun p hp => List.mem_cons_of_mem _ (in2 hp)) fz6⟩⟩
          exact ⟨hkp _ _ (by simpa using hne p hp) (N6 p (List.mem_cons_of_mem _ hp)).1, (N6 p (List.mem_cons_of_mem _ hp)).2⟩
        clear F6 N6 F27 N27 hkp
        clear hJ J
        walk_at "wl"
        refine LCg.ListComp_U (F₀ := F39) (by with_unfolding_all rfl) (by decide) (by rfl) (by decide) (by rfl) ?_
        walk_at "wl"
        refine len_list (PySem.IsL.isList (N39 _ (in2 mR6)).1) (by rw [List.size_toArray, hv.1]; omega) ?_
        (try dsimp only)
        rw [List.size_toArray, hv.1]
        walk_at "wl"
        (rename Fr _ _ _ _ => F40); (rename News _ _ _ _ => N40); (rename IsRange _ _ _ _ _ _ _ _ => hR2)
        refine LCg.CompSrc.range (n := n) rfl F40 N40 hR2 (small_n (by omega)) (range_n n) (by rw [sizeLine_eq]; omega) ?_
        intro g5
        refine comp_inv n (fun i ys news => news = (L + 1 + 1, ot') :: (L + 1, oR') :: T6 ∧ ys.length = i ∧ IntsAre ys ((List.range i).map fun k => (((r k - r (pv n k)).natAbs : Nat) : Int))) ?_ ?_ _ 0 [] _ (by omega) ⟨rfl, rfl, .nil⟩
        · rintro i ys news v I2 oI2 C2 oC D2 m₂ h2' tk2 E' hi' ⟨rfl, hys, hms⟩ ⟨tv, rfl⟩ hC hx2 F41 N41 off ne
          have e0 : (0 : Int) + ((i : Nat) : Int) = ((i : Nat) : Int) := Int.zero_add _
          rw [e0] at hx2
          clear F40 N40
          (try clear F39 N39)
          walk_at "wl"
          (rename News _ _ _ _ => N42)
          refine sub_ints i N42 (in5 mR6) hv rfl hi' (by omega) ?_
          intro u1
          (try dsimp only)
          walk_at "wl"
          (rename News _ _ _ _ => N43)
          refine sub_prev i N43 (in5 mR6) hv rfl hi' (by omega) ?_
          intro u2
          (try dsimp only)
          walk_at "wl"
          (rename Fr _ _ _ _ => F44); (rename News _ _ _ _ => N44)
          refine call_abs_int ?_
          intro u3 tk44
          (try dsimp only)
          have ea : (if r i - r (pv n i) < 0 then -(r i - r (pv n i)) else r i - r (pv n i)) = (((r i - r (pv n i)).natAbs : Nat) : Int) := by
            split <;> omega
          rw [ea]
          exact CompEnd.intro F44 N44 _ (fun p hp => hp) off trivial ⟨rfl, by rw [List.length_append, hys]; rfl, by rw [List.range_succ, List.map_append]; exact PyProof.Rows.ksk_snoc hms⟩
        · rintro ys news ⟨rfl, hys, hms⟩
          unfold LCg.FinE
          intro D6 h45 tk45 F45 N45 oD6
          (try dsimp only)
          (try clear F40 N40)
          (try clear F39 N39)
          walk_at "wl"
          refine sum_exact rfl (PySem.IsL.isList (N45 _ List.mem_cons_self).1) hms ?_
          intro h46 tk46 ts kp46
          (try dsimp only)
          have F46 := F45.keeps kp46
          have N46 : News s1.heap L h46 ((L + 1 + 1, ot') :: (L + 1, oR') :: T6) := fun p hp => N45.grown kp46 p (List.mem_cons_of_mem _ hp)
          clear F45 N45 kp46 oD6
          walk_at "wl"
          (rename Fr _ _ _ _ => F47); (rename News _ _ _ _ => N47)
          refine LCg.ListComp_U (F₀ := F47) (by with_unfolding_all rfl) (by decide) (by rfl) (by decide) (by rfl) ?_
          walk_at "wl"
          refine LCg.CompSrc.ledger rfl F47 N47 (in2 mB6) (by rw [List.size_toArray, List.length_map, hab, sizeLine_eq]; omega) ?_
          intro g6
          refine comp_inv asB.length (fun i ys news => news = (L + 1 + 1, ot') :: (L + 1, oR') :: T6 ∧ IntsAre ys (((bruns (rlt r) n ds).2.take i).map fun b => r b.2 - r b.1)) ?_ ?_ _ 0 [] _ (by rw [List.size_toArray, List.length_map]; omega) ⟨rfl, .nil⟩
          · rintro i ys news v I2 oI2 C2 oC D2 m₂ h2' tk2 E' hi' ⟨rfl, hms2⟩ hP hC hx2 F48 N48 off ne
            rw [List.getElem?_toArray, List.getElem?_map, List.getElem?_eq_getElem hi'] at hP
            replace hP : Value.ref asB[i] = v := Option.some.inj hP
            subst hP
            clear F47 N47
            have hib : i < (bruns (rlt r) n ds).2.length := by omega
            have hbi := bB _ (List.getElem_mem hib)
            walk_at "wl"
            (rename News _ _ _ _ => N49)
            refine sub_bar1 (zipT_at (i := i) N49 (fun p hp => in5 (zB6 p hp)) hi' hab) ?_
            (try dsimp only)
            walk_at "wl"
            (rename News _ _ _ _ => N50)
            refine PySem.W.kba_turn (value' := PySem.Expr.Name (PySem.Str.ofString "_") ⟨0, 0, 0, 0⟩) (fun _ => rfl) ?_
            refine sub_item0 (iI6.its N50 (fun p hp => in5 hp) _ hbi.2) ?_
            intro u1
            (try dsimp only)
            walk_at "wl"
            (rename News _ _ _ _ => N51)
            refine sub_bar0 (zipT_at (i := i) N51 (fun p hp => in5 (zB6 p hp)) hi' hab) ?_
            (try dsimp only)
            walk_at "wl"
            (rename News _ _ _ _ => N52)
            refine PySem.W.kba_turn (value' := PySem.Expr.Name (PySem.Str.ofString "_") ⟨0, 0, 0, 0⟩) (fun _ => rfl) ?_
            refine sub_item0 (iI6.its N52 (fun p hp => in5 hp) _ hbi.1) ?_
            intro u2
            (try dsimp only)
            walk_at "wl"
            (rename Fr _ _ _ _ => F53); (rename News _ _ _ _ => N53)
            refine CompEnd.intro F53 N53 _ (fun p hp => hp) off (.inr ⟨_, in2 mB6, rfl, _, rfl⟩) ⟨rfl, ?_⟩
            rw [take_map_snoc (fun b : Nat × Nat => r b.2 - r b.1) (bruns (rlt r) n ds).2 i (0, 0) hib, getD_pairs hib]
            exact PyProof.Rows.ksk_snoc hms2
          · rintro ys2 news ⟨rfl, hms2⟩
            unfold LCg.FinE
            intro D7 h54 tk54 F54 N54 oD7
            (try dsimp only)
            (try clear F47 N47)
            rw [List.take_of_length_le (by omega)] at hms2
            walk_at "wl"
            refine sum_exact rfl (PySem.IsL.isList (N54 _ List.mem_cons_self).1) hms2 ?_
            intro h55 tk55 ts2 kp55
            (try dsimp only)
            have F55 := F54.keeps kp55
            have N55 : News s1.heap L h55 ((L + 1 + 1, ot') :: (L + 1, oR') :: T6) := fun p hp => N54.grown kp55 p (List.mem_cons_of_mem _ hp)
            clear F54 N54 kp55 oD7
            walk_at "wl"
            refine max_list_N rfl F55 N55 (PySem.IsL.isList (N55 _ (in2 mR6)).1) hv.ints (by rw [List.length_map, List.length_range]; omega) ?_
            intro h56 M tM tk56 F56 N56 hM1 hM2
            (try dsimp only)
            clear F55 N55
            walk_at "wl"
            refine min_list_N rfl F56 N56 (PySem.IsL.isList (N56 _ (in2 mR6)).1) hv.ints (by rw [List.length_map, List.length_range]; omega) ?_
            intro h57 M' tM' tk57 F57 N57 hm1 hm2
            (try dsimp only)
            clear F56 N56
            walk_at "wl"
            have hst := sum_steps (rlt_so r) (rlt_le r) h2n rowB (mx := M) (mn := M')
              (by
                obtain ⟨k, hk, e⟩ := List.mem_map.mp hM1
                exact ⟨⟨k, List.mem_range.mp hk, e⟩, fun k hk => hM2 _ (List.mem_map.mpr ⟨k, List.mem_range.mpr hk, rfl⟩)⟩)
              (by
                obtain ⟨k, hk, e⟩ := List.mem_map.mp hm1
                exact ⟨⟨k, List.mem_range.mp hk, e⟩, fun k hk => hm2 _ (List.mem_map.mpr ⟨k, List.mem_range.mpr hk, rfl⟩)⟩)
            unfold isum at hst
            exact ⟨by rw [hst, beq_self_eq_true], rfl, rfl, F57.keep⟩)
end Mine
end

section
set_option maxRecDepth 100000 in
set_option maxHeartbeats 8000000 in
theorem PySem.Challenge.cw_dj5012_01_holds : PySem.Challenge.rw_dj5012_01.Holds := by
  exact Mine.all_holds
end
