import PyProof.Rows.All
import Wide.All
import OpenK.AllK
import Wide.FinOn
import PySem.Challenge.RW_mr0119_01
set_option Elab.async false
set_option linter.unusedVariables false
set_option linter.unusedSimpArgs false
set_option maxRecDepth 100000
/-! the plain law of the heap: lists of any things with a key -/
namespace Mine
variable {α : Type} [Inhabited α]

abbrev at' (l : List α) (i : Nat) : α := l.getD i default

noncomputable def sdown (key : α → Nat) (x : α) (st : Nat) (pos : Nat) (l : List α) : List α :=
  if h : pos > st then
    if key x < key (at' l ((pos - 1) / 2)) then sdown key x st ((pos - 1) / 2) (l.set pos (at' l ((pos - 1) / 2))) else l.set pos x
  else l.set pos x
termination_by pos
decreasing_by omega

/-- the smaller child -/
noncomputable def lesser (key : α → Nat) (l : List α) (c : Nat) : Nat := if c + 1 < l.length ∧ ¬ key (at' l c) < key (at' l (c + 1)) then c + 1 else c
theorem lesser_ge (key : α → Nat) (l : List α) (c : Nat) : c ≤ lesser key l c := by unfold lesser; split <;> omega
theorem lesser_le (key : α → Nat) (l : List α) (c : Nat) : lesser key l c ≤ c + 1 := by unfold lesser; split <;> omega
theorem lesser_lt {key : α → Nat} {l : List α} {c : Nat} (h : c < l.length) : lesser key l c < l.length := by unfold lesser; split <;> omega

/-- the way down: the place that is left open, and the list -/
noncomputable def sway (key : α → Nat) (pos : Nat) (l : List α) : Nat × List α :=
  if h : 2 * pos + 1 < l.length then sway key (lesser key l (2 * pos + 1)) (l.set pos (at' l (lesser key l (2 * pos + 1)))) else (pos, l)
termination_by l.length - pos
decreasing_by have := lesser_ge key l (2 * pos + 1); simp only [List.length_set]; omega

noncomputable def sup (key : α → Nat) (pos : Nat) (l : List α) : List α :=
  sdown key (at' l pos) pos (sway key pos l).1 ((sway key pos l).2.set (sway key pos l).1 (at' l pos))

theorem at_set_self {l : List α} {i : Nat} {x : α} (h : i < l.length) : at' (l.set i x) i = x := by simp [at', List.getD, h]
theorem at_set_ne {l : List α} {i j : Nat} {x : α} (h : i ≠ j) : at' (l.set i x) j = at' l j := by simp [at', List.getD, h]

theorem sdown_length (key : α → Nat) (x : α) (st pos : Nat) (l : List α) : (sdown key x st pos l).length = l.length := by
  induction pos using Nat.strongRecOn generalizing l with
  | ind pos ih =>
    unfold sdown
    split
    · split
      · rw [ih _ (by omega)]; simp
      · simp
    · simp

theorem set_set_perm {l : List α} {i j : Nat} {x : α} (hi : i < l.length) (hj : j < l.length) (hij : i ≠ j) : List.Perm ((l.set i (at' l j)).set j x) (l.set i x) := by
  have e : (l.set i x).set j (at' l j) = l.set i x := by
    apply List.ext_getElem?
    intro k
    simp only [List.getElem?_set, List.length_set, at', List.getD]
    by_cases h1 : j = k
    · subst h1; simp [hj, hij]
    · simp [h1]
  have := @List.set_set_perm α (l.set i x) i j (by simpa using hi) (by simpa using hj)
  have e1 : ((l.set i x).set i ((l.set i x)[j]'(by simpa using hj))).set j ((l.set i x)[i]'(by simpa using hi)) = (l.set i (at' l j)).set j x := by
    simp [hij, at', List.getD, hj]
  rw [e1] at this
  exact this

theorem sdown_perm (key : α → Nat) (x : α) (st : Nat) : ∀ (pos : Nat) (l : List α), pos < l.length → List.Perm (sdown key x st pos l) (l.set pos x) := by
  intro pos
  induction pos using Nat.strongRecOn with
  | ind pos ih =>
    intro l hp
    unfold sdown
    split
    · split
      · refine (ih _ (by omega) _ (by simp; omega)).trans ?_
        exact set_set_perm hp (by omega) (by omega)
      · exact .refl _
    · exact .refl _

theorem sway_lt {key : α → Nat} : ∀ (k : Nat) (pos : Nat) (l : List α), l.length - pos = k → pos < l.length → (sway key pos l).1 < l.length ∧ (sway key pos l).2.length = l.length := by
  intro k
  induction k using Nat.strongRecOn with
  | ind k ih =>
    intro pos l hk hp
    unfold sway
    split
    · rename_i hc
      have h1 := lesser_ge key l (2 * pos + 1)
      have h2 := lesser_lt (key := key) hc
      have := ih (l.length - lesser key l (2 * pos + 1)) (by omega) (lesser key l (2 * pos + 1)) (l.set pos (at' l (lesser key l (2 * pos + 1)))) (by simp) (by simpa using h2)
      simpa using this
    · exact ⟨hp, rfl⟩

theorem sway_perm {key : α → Nat} {x : α} : ∀ (k : Nat) (pos : Nat) (l : List α), l.length - pos = k → pos < l.length → List.Perm ((sway key pos l).2.set (sway key pos l).1 x) (l.set pos x) := by
  intro k
  induction k using Nat.strongRecOn with
  | ind k ih =>
    intro pos l hk hp
    unfold sway
    split
    · rename_i hc
      have h1 := lesser_ge key l (2 * pos + 1)
      have h2 := lesser_lt (key := key) hc
      refine (ih (l.length - lesser key l (2 * pos + 1)) (by omega) (lesser key l (2 * pos + 1)) (l.set pos (at' l (lesser key l (2 * pos + 1)))) (by simp) (by simpa using h2)).trans ?_
      exact set_set_perm hp h2 (by omega)
    · exact .refl _

theorem set_at_self {l : List α} {i : Nat} : l.set i (at' l i) = l := by
  apply List.ext_getElem?
  intro k
  simp only [List.getElem?_set, at', List.getD]
  by_cases h : i = k
  · subst h
    by_cases q : i < l.length
    · simp [q]
    · simp [q]
  · simp [h]

theorem sup_perm {key : α → Nat} {pos : Nat} {l : List α} (hp : pos < l.length) : List.Perm (sup key pos l) l := by
  unfold sup
  obtain ⟨h1, h2⟩ := sway_lt (key := key) _ pos l rfl hp
  refine (sdown_perm key _ pos _ _ (by simp [h1, h2])).trans ?_
  rw [List.set_set]
  refine (sway_perm _ pos l rfl hp).trans ?_
  rw [set_at_self]
theorem sup_length {key : α → Nat} {pos : Nat} {l : List α} (hp : pos < l.length) : (sup key pos l).length = l.length := (sup_perm hp).length_eq

/-- every edge whose parent is p or more is in order -/
noncomputable def Heaped (key : α → Nat) (l : List α) (p : Nat) : Prop := ∀ i, 0 < i → i < l.length → p ≤ (i - 1) / 2 → key (at' l ((i - 1) / 2)) ≤ key (at' l i)

inductive Desc (st : Nat) : Nat → Prop
  | here : Desc st st
  | down {i : Nat} : 0 < i → Desc st ((i - 1) / 2) → Desc st i
theorem Desc.ge {st i : Nat} (h : Desc st i) : st ≤ i := by induction h <;> omega
theorem Desc.parent {st i : Nat} (h : Desc st i) (hi : st < i) : Desc st ((i - 1) / 2) := by
  cases h with
  | here => omega
  | down _ h => exact h
theorem desc_zero : ∀ i, Desc 0 i := by
  intro i
  induction i using Nat.strongRecOn with
  | ind i ih =>
    by_cases h : i = 0
    · subst h; exact .here
    · exact .down (by omega) (ih _ (by omega))

theorem sdown_heaped {key : α → Nat} {x : α} {st : Nat} : ∀ (pos : Nat) (l : List α), pos < l.length → Desc st pos →
    (∀ i, 0 < i → i < l.length → st ≤ (i - 1) / 2 → (i - 1) / 2 ≠ pos → i ≠ pos → key (at' l ((i - 1) / 2)) ≤ key (at' l i)) →
    (∀ i, 0 < i → i < l.length → (i - 1) / 2 = pos → key x ≤ key (at' l i)) →
    (st < pos → ∀ i, 0 < i → i < l.length → (i - 1) / 2 = pos → key (at' l ((pos - 1) / 2)) ≤ key (at' l i)) →
    Heaped key (sdown key x st pos l) st := by
  intro pos
  induction pos using Nat.strongRecOn with
  | ind pos ih =>
    intro l hp hd I1 I2 I3
    have out : (st < pos → key (at' l ((pos - 1) / 2)) ≤ key x) → Heaped key (l.set pos x) st := by
      intro hx i h0 hi hs
      rw [List.length_set] at hi
      by_cases hip : i = pos
      · subst hip
        rw [at_set_self hi, at_set_ne (by omega)]
        exact hx (by omega)
      · rw [at_set_ne (i := pos) (j := i) (Ne.symm hip)]
        by_cases hpp : (i - 1) / 2 = pos
        · rw [hpp, at_set_self hp]; exact I2 i h0 hi hpp
        · rw [at_set_ne (Ne.symm hpp)]; exact I1 i h0 hi hs hpp hip
    unfold sdown
    split
    · rename_i hgt
      split
      · rename_i hlt
        have hdp := hd.parent hgt
        have hge := hdp.ge
        refine ih _ (by omega) _ (by simp; omega) hdp ?_ ?_ ?_
        · intro i h0 hi hs h1 h2
          rw [List.length_set] at hi
          by_cases hip : i = pos
          · exact absurd (by rw [hip]) h1
          · rw [at_set_ne (i := pos) (j := i) (Ne.symm hip)]
            by_cases hpp : (i - 1) / 2 = pos
            · rw [hpp, at_set_self hp]; exact I3 hgt i h0 hi hpp
            · rw [at_set_ne (Ne.symm hpp)]; exact I1 i h0 hi hs hpp hip
        · intro i h0 hi h1
          rw [List.length_set] at hi
          by_cases hip : i = pos
          · subst hip; rw [at_set_self hi]; omega
          · rw [at_set_ne (Ne.symm hip)]
            have := I1 i h0 hi (by omega) (by omega) hip
            rw [h1] at this
            omega
        · intro hst i h0 hi h1
          rw [List.length_set] at hi
          rw [at_set_ne (i := pos) (j := ((pos - 1) / 2 - 1) / 2) (by omega)]
          have e1 := I1 ((pos - 1) / 2) (by omega) (by omega) (hdp.parent hst).ge (by omega) (by omega)
          by_cases hip : i = pos
          · subst hip; rw [at_set_self hi]; exact e1
          · rw [at_set_ne (Ne.symm hip)]
            have := I1 i h0 hi (by omega) (by omega) hip
            rw [h1] at this
            omega
      · rename_i hnl
        exact out fun _ => by omega
    · exact out fun h => by omega

theorem lesser_min {key : α → Nat} {l : List α} {pos i : Nat} (h0 : 0 < i) (hi : i < l.length) (hp : (i - 1) / 2 = pos) : key (at' l (lesser key l (2 * pos + 1))) ≤ key (at' l i) := by
  have : i = 2 * pos + 1 ∨ i = 2 * pos + 1 + 1 := by omega
  unfold lesser
  rcases this with rfl | rfl
  · split <;> rename_i h <;> omega
  · split
    · omega
    · rename_i h
      have : key (at' l (2 * pos + 1)) < key (at' l (2 * pos + 1 + 1)) := by
        apply Classical.byContradiction
        intro q; exact h ⟨hi, q⟩
      omega

theorem sway_heaped {key : α → Nat} {x : α} {st : Nat} : ∀ (k : Nat) (pos : Nat) (l : List α), l.length - pos = k → pos < l.length → Desc st pos →
    (∀ i, 0 < i → i < l.length → st ≤ (i - 1) / 2 → (i - 1) / 2 ≠ pos → i ≠ pos → key (at' l ((i - 1) / 2)) ≤ key (at' l i)) →
    (st < pos → ∀ i, 0 < i → i < l.length → (i - 1) / 2 = pos → key (at' l ((pos - 1) / 2)) ≤ key (at' l i)) →
    Heaped key (sdown key x st (sway key pos l).1 ((sway key pos l).2.set (sway key pos l).1 x)) st := by
  intro k
  induction k using Nat.strongRecOn with
  | ind k ih =>
    intro pos l hk hp hd J1 J3
    unfold sway
    split
    · rename_i hc
      have h1 := lesser_ge key l (2 * pos + 1)
      have h1' := lesser_le key l (2 * pos + 1)
      have h2 := lesser_lt (key := key) hc
      have hm : ∀ i, 0 < i → i < l.length → (i - 1) / 2 = pos → key (at' l (lesser key l (2 * pos + 1))) ≤ key (at' l i) := fun i => lesser_min
      generalize hce : lesser key l (2 * pos + 1) = c at *
      have hcp : (c - 1) / 2 = pos := by omega
      refine ih (l.length - c) (by omega) c (l.set pos (at' l c)) (by simp) (by simpa using h2) (.down (by omega) (by rw [hcp]; exact hd)) ?_ ?_
      · intro i h0 hi hs q1 q2
        rw [List.length_set] at hi
        by_cases hip : i = pos
        · subst hip
          rw [at_set_self hi, at_set_ne (by omega)]
          exact J3 (by omega) c (by omega) h2 hcp
        · rw [at_set_ne (i := pos) (j := i) (Ne.symm hip)]
          by_cases hpp : (i - 1) / 2 = pos
          · rw [hpp, at_set_self hp]; exact hm i h0 hi hpp
          · rw [at_set_ne (Ne.symm hpp)]; exact J1 i h0 hi hs hpp hip
      · intro _ i h0 hi q1
        rw [List.length_set] at hi
        rw [hcp, at_set_self hp, at_set_ne (i := pos) (j := i) (by omega)]
        have := J1 i h0 hi (by have := hd.ge; omega) (by omega) (by omega)
        rw [q1] at this; exact this
    · rename_i hc
      refine sdown_heaped pos _ (by simpa using hp) hd ?_ ?_ ?_
      · intro i h0 hi hs q1 q2
        rw [List.length_set] at hi
        rw [at_set_ne (Ne.symm q1), at_set_ne (Ne.symm q2)]
        exact J1 i h0 hi hs q1 q2
      · intro i h0 hi q
        rw [List.length_set] at hi
        dsimp only at hi
        omega
      · intro _ i h0 hi q
        rw [List.length_set] at hi
        dsimp only at hi
        omega

theorem sup_heaped {key : α → Nat} {pos : Nat} {l : List α} (hp : pos < l.length) (h : Heaped key l (pos + 1)) : Heaped key (sup key pos l) pos := by
  unfold sup
  refine sway_heaped _ pos l rfl hp .here ?_ ?_
  · intro i h0 hi hs q1 q2
    exact h i h0 hi (by omega)
  · intro q; omega

/-- the top is the least -/
theorem Heaped.least {key : α → Nat} {l : List α} (h : Heaped key l 0) : ∀ i, i < l.length → key (at' l 0) ≤ key (at' l i) := by
  intro i
  induction i using Nat.strongRecOn with
  | ind i ih =>
    intro hi
    by_cases h0 : i = 0
    · subst h0; exact Nat.le_refl _
    · exact Nat.le_trans (ih ((i - 1) / 2) (by omega) (by omega)) (h i (by omega) hi (Nat.zero_le _))

theorem push_heaped {key : α → Nat} {l : List α} {x : α} (h : Heaped key l 0) : Heaped key (sdown key x 0 l.length (l ++ [x])) 0 := by
  refine sdown_heaped _ _ (by simp) (desc_zero _) ?_ ?_ ?_
  · intro i h0 hi hs q1 q2
    simp only [List.length_append, List.length_cons, List.length_nil] at hi
    have e : ∀ j, j < l.length → at' (l ++ [x]) j = at' l j := fun j hj => by simp [at', List.getD, hj, List.getElem?_append_left]
    rw [e _ (by omega), e _ (by omega)]
    exact h i h0 (by omega) (Nat.zero_le _)
  · intro i h0 hi q; simp at hi; omega
  · intro _ i h0 hi q; simp at hi; omega
theorem push_perm {key : α → Nat} {l : List α} {x : α} : List.Perm (sdown key x 0 l.length (l ++ [x])) (x :: l) := by
  refine (sdown_perm key x 0 _ _ (by simp)).trans ?_
  have : (l ++ [x]).set l.length x = l ++ [x] := by
    apply List.ext_getElem?
    intro k
    simp only [List.getElem?_set, List.length_append, List.length_cons, List.length_nil]
    by_cases q : l.length = k
    · subst q; simp
    · simp [q]
  rw [this]
  exact List.perm_append_comm
end Mine
namespace Mine
variable {α : Type} [Inhabited α]
noncomputable def hfy (key : α → Nat) : Nat → List α → List α
  | 0, l => l
  | k + 1, l => hfy key k (sup key k l)
theorem hfy_perm {key : α → Nat} : ∀ (k : Nat) (l : List α), k ≤ l.length → List.Perm (hfy key k l) l
  | 0, _, _ => .refl _
  | k + 1, l, h => (hfy_perm k _ (by rw [sup_length (by omega)]; omega)).trans (sup_perm (by omega))
theorem hfy_heaped {key : α → Nat} : ∀ (k : Nat) (l : List α), k ≤ l.length → Heaped key l k → Heaped key (hfy key k l) 0
  | 0, _, _, h => h
  | k + 1, l, hk, h => hfy_heaped k _ (by rw [sup_length (by omega)]; omega) (sup_heaped (by omega) h)
theorem heapify_heaped {key : α → Nat} {l : List α} : Heaped key (hfy key (l.length / 2) l) 0 := by
  refine hfy_heaped _ _ (by omega) ?_
  intro i h0 hi hs
  omega

/-- what is left when the top goes and the last takes its place -/
theorem pop_perm {key : α → Nat} {l : List α} {y : α} (h0 : 0 < l.length) : List.Perm (at' l 0 :: sup key 0 (l.set 0 y)) (l ++ [y]) := by
  cases l with
  | nil => simp at h0
  | cons a r =>
    have e : at' (a :: r) 0 = a := by simp [at', List.getD]
    rw [e]
    refine (List.Perm.cons a (sup_perm (by simp))).trans ?_
    show List.Perm (a :: y :: r) (a :: r ++ [y])
    exact List.Perm.cons a (List.perm_append_comm (l₁ := [y]))
theorem set0_heaped {key : α → Nat} {l : List α} {y : α} (h : Heaped key l 0) : Heaped key (l.set 0 y) 1 := by
  intro i h0 hi hs
  rw [List.length_set] at hi
  rw [at_set_ne (by omega), at_set_ne (by omega)]
  exact h i h0 hi (Nat.zero_le _)
theorem heaped_prefix {key : α → Nat} {l : List α} {y : α} (h : Heaped key (l ++ [y]) 0) : Heaped key l 0 := by
  intro i h0 hi hs
  have := h i h0 (by simp; omega) hs
  have e : ∀ j, j < l.length → at' (l ++ [y]) j = at' l j := fun j hj => by simp [at', List.getD, hj, List.getElem?_append_left]
  rwa [e _ (by omega), e _ (by omega)] at this
theorem pop_heaped {key : α → Nat} {l : List α} {y : α} (h0 : 0 < l.length) (h : Heaped key (l ++ [y]) 0) : Heaped key (sup key 0 (l.set 0 y)) 0 :=
  sup_heaped (by simpa using h0) (set0_heaped (heaped_prefix h))
theorem replace_perm {key : α → Nat} {l : List α} {y : α} (h0 : 0 < l.length) : List.Perm (at' l 0 :: sup key 0 (l.set 0 y)) (y :: l) :=
  (pop_perm h0).trans List.perm_append_comm
theorem replace_heaped {key : α → Nat} {l : List α} {y : α} (h0 : 0 < l.length) (h : Heaped key l 0) : Heaped key (sup key 0 (l.set 0 y)) 0 :=
  sup_heaped (by simpa using h0) (set0_heaped h)
end Mine

/-! the plain law of words and ranks -/
namespace Mine

noncomputable def rank (n : Int) : Nat := 2 * n.natAbs + (if 0 < n then 1 else 0)
theorem rank_inj {a b : Int} (h : rank a = rank b) : a = b := by
  unfold rank at h; split at h <;> split at h <;> omega
theorem rank_lt {a b : Int} : rank a < rank b ↔ (a.natAbs < b.natAbs ∨ (a.natAbs = b.natAbs ∧ a < b)) := by
  unfold rank; split <;> split <;> omega

noncomputable def word (m : Nat) : List UInt8 := if hz : m = 0 then [] else word (m / 16) ++ [UInt8.ofNat (65 + m % 16)]
termination_by m
decreasing_by omega

theorem word_zero : word 0 = [] := by unfold word; simp
theorem word_pos {m : Nat} (h : m ≠ 0) : word m = word (m / 16) ++ [UInt8.ofNat (65 + m % 16)] := by
  conv => lhs; unfold word
  rw [dif_neg h]
theorem word_child {m d : Nat} (hm : m ≠ 0) (hd : d < 16) : word (16 * m + d) = word m ++ [UInt8.ofNat (65 + d)] := by
  rw [word_pos (by omega)]
  have e1 : (16 * m + d) / 16 = m := by omega
  have e2 : (16 * m + d) % 16 = d := by omega
  rw [e1, e2]
theorem word_length_mono : ∀ k m : Nat, m ≤ k → (word m).length ≤ (word k).length := by
  intro k
  induction k using Nat.strongRecOn with
  | ind k ih =>
    intro m hm
    by_cases h0 : m = 0
    · subst h0; rw [word_zero]; simp
    · rw [word_pos h0, word_pos (m := k) (by omega)]
      have := ih (k / 16) (by omega) (m / 16) (by omega)
      simp; omega
theorem word_length_lt {m k : Nat} (h : (word m).length < (word k).length) : m < k := by
  apply Classical.byContradiction
  intro q
  have := word_length_mono m k (by omega)
  omega
theorem word_length_le {m : Nat} : (word m).length ≤ m := by
  induction m using Nat.strongRecOn with
  | ind m ih =>
    by_cases h0 : m = 0
    · subst h0; rw [word_zero]; simp
    · rw [word_pos h0]
      have := ih (m / 16) (by omega)
      simp; omega

/-- the order of like-long rows of numbers -/
noncomputable def ordN : List UInt8 → List UInt8 → Ordering
  | [], [] => .eq
  | [], _ :: _ => .lt
  | _ :: _, [] => .gt
  | x :: xs, y :: ys => if x < y then .lt else if x > y then .gt else ordN xs ys
theorem ordN_snoc {a b : UInt8} : ∀ {xs ys : List UInt8}, xs.length = ys.length → ordN (xs ++ [a]) (ys ++ [b]) = (match ordN xs ys with | .eq => (if a < b then .lt else if a > b then .gt else .eq) | o => o)
  | [], [], _ => by simp [ordN]
  | x :: xs, y :: ys, h => by
    simp only [List.cons_append, ordN]
    split
    · rfl
    · split
      · rfl
      · exact ordN_snoc (by simpa using h)
theorem ofNat_lt {a b : Nat} (ha : a < 16) (hb : b < 16) : (UInt8.ofNat (65 + a) < UInt8.ofNat (65 + b)) ↔ a < b := by
  rw [UInt8.lt_iff_toNat_lt, UInt8.toNat_ofNat', UInt8.toNat_ofNat']
  rw [Nat.mod_eq_of_lt (by omega), Nat.mod_eq_of_lt (by omega)]
  omega
theorem ordN_word : ∀ (m k : Nat), (word m).length = (word k).length → ordN (word m) (word k) = compare m k := by
  intro m
  induction m using Nat.strongRecOn with
  | ind m ih =>
    intro k h
    by_cases h0 : m = 0
    · subst h0
      have : k = 0 := by
        apply Classical.byContradiction
        intro q
        rw [word_zero, word_pos q] at h; simp at h
      subst this
      rw [word_zero]; rfl
    · have hk : k ≠ 0 := by
        intro q; subst q
        rw [word_zero, word_pos h0] at h; simp at h
      rw [word_pos h0, word_pos hk] at h ⊢
      have hl : (word (m / 16)).length = (word (k / 16)).length := by simpa using h
      rw [ordN_snoc hl, ih (m / 16) (by omega) (k / 16) hl]
      have q1 := ofNat_lt (a := m % 16) (b := k % 16) (by omega) (by omega)
      have q2 := ofNat_lt (a := k % 16) (b := m % 16) (by omega) (by omega)
      have q2' : (UInt8.ofNat (65 + m % 16) > UInt8.ofNat (65 + k % 16)) ↔ k % 16 < m % 16 := q2
      rcases Nat.lt_trichotomy (m / 16) (k / 16) with h1 | h1 | h1
      · rw [Nat.compare_eq_lt.mpr h1, Nat.compare_eq_lt.mpr (by omega)]
      · rw [Nat.compare_eq_eq.mpr h1]
        simp only [q1, q2']
        rcases Nat.lt_trichotomy (m % 16) (k % 16) with h2 | h2 | h2
        · rw [if_pos h2, Nat.compare_eq_lt.mpr (by omega)]
        · rw [if_neg (by omega), if_neg (by omega), Nat.compare_eq_eq.mpr (by omega)]
        · rw [if_neg (by omega), if_pos h2, Nat.compare_eq_gt.mpr (by omega)]
      · rw [Nat.compare_eq_gt.mpr h1, Nat.compare_eq_gt.mpr (by omega)]
theorem ordN_self : ∀ l : List UInt8, ordN l l = .eq
  | [] => rfl
  | x :: l => by simp [ordN, UInt8.lt_irrefl, ordN_self l]
theorem word_inj {m k : Nat} (h : word m = word k) : m = k := by
  have := ordN_word m k (by rw [h])
  rw [h, ordN_self] at this
  exact Nat.compare_eq_eq.mp this.symm

noncomputable def sgn (n : Int) : Int := if 0 < n then 1 else 0
/-- a word's key: its length, the word, its sign -/
theorem word_rank {n m : Int} : (if (word n.natAbs).length = (word m.natAbs).length then (if word n.natAbs = word m.natAbs then decide (sgn n < sgn m) else ordN (word n.natAbs) (word m.natAbs) == .lt) else decide ((word n.natAbs).length < (word m.natAbs).length)) = decide (rank n < rank m) := by
  rw [Bool.eq_iff_iff, decide_eq_true_eq, rank_lt]
  split
  · rename_i hl
    split
    · rename_i hw
      have := word_inj hw
      rw [decide_eq_true_eq]
      unfold sgn
      split <;> split <;> omega
    · rename_i hw
      have : n.natAbs ≠ m.natAbs := fun e => hw (by rw [e])
      rw [ordN_word _ _ hl, beq_iff_eq, Nat.compare_eq_lt]
      omega
  · rename_i hl
    rw [decide_eq_true_eq]
    constructor
    · intro h; exact .inl (word_length_lt h)
    · rintro (h | h)
      · have := word_length_mono m.natAbs n.natAbs (by omega); omega
      · exact absurd (by rw [h.1]) hl
theorem num_rank {n m : Int} : (if n.natAbs = m.natAbs then (if n = m then false else decide (n < m)) else decide (n.natAbs < m.natAbs)) = decide (rank n < rank m) := by
  rw [Bool.eq_iff_iff, decide_eq_true_eq, rank_lt]
  split
  · split
    · simp; omega
    · simp only [decide_eq_true_eq]; omega
  · simp only [decide_eq_true_eq]; omega
end Mine
namespace Mine
noncomputable def child (n d : Int) : Int := if 0 < n then n * 16 + d else n * 16 - d
theorem child_abs {n d : Int} (hn : n ≠ 0) (hd : 0 ≤ d) : (child n d).natAbs = 16 * n.natAbs + d.toNat := by unfold child; split <;> omega
theorem child_sgn {n d : Int} (hn : n ≠ 0) (hd : 0 ≤ d) : sgn (child n d) = sgn n := by unfold child sgn; split <;> split <;> omega
theorem child_ne {n d : Int} (hn : n ≠ 0) (hd : 0 ≤ d) : child n d ≠ 0 := by unfold child; split <;> omega
theorem child_word {n d : Int} (hn : n ≠ 0) (hd : 0 ≤ d) (h16 : d < 16) : word (child n d).natAbs = word n.natAbs ++ [UInt8.ofNat (65 + d.toNat)] := by
  rw [child_abs hn hd, word_child (by omega) (by omega)]
theorem word_length_pow : ∀ (k m : Nat), m < 16 ^ k → (word m).length ≤ k := by
  intro k
  induction k with
  | zero => intro m h; have : m = 0 := by omega
            subst this; rw [word_zero]; simp
  | succ k ih =>
    intro m h
    by_cases h0 : m = 0
    · subst h0; rw [word_zero]; simp
    · rw [word_pos h0]
      have := ih (m / 16) (by rw [Nat.pow_succ] at h; omega)
      simp; omega
end Mine

/-! a heap of things that stand for numbers -/
set_option linter.unusedSectionVars false
namespace Mine
section
variable {V : Type} [Inhabited V]

open Classical in
noncomputable def valR (Rep : V → Int → Prop) (v : V) : Int := if h : ∃ n, Rep v n then h.choose else 0

structure Fun (Rep : V → Int → Prop) : Prop where
  uniq : ∀ v n m, Rep v n → Rep v m → n = m
theorem valR_eq {Rep : V → Int → Prop} (U : Fun Rep) {v : V} {n : Int} (h : Rep v n) : valR Rep v = n := by
  unfold valR
  rw [dif_pos ⟨n, h⟩]
  exact U.uniq _ _ _ (Exists.choose_spec (p := fun n => Rep v n) ⟨n, h⟩) h
theorem valR_rep {Rep : V → Int → Prop} {v : V} (h : ∃ n, Rep v n) : Rep v (valR Rep v) := by
  unfold valR
  rw [dif_pos h]
  exact h.choose_spec

noncomputable def keyR (Rep : V → Int → Prop) (v : V) : Nat := rank (valR Rep v)
theorem keyR_eq {Rep : V → Int → Prop} (U : Fun Rep) {v : V} {n : Int} (h : Rep v n) : keyR Rep v = rank n := by unfold keyR; rw [valR_eq U h]

/-- a heap that holds the numbers ns, in any order -/
structure HeapOf (Rep : V → Int → Prop) (its : List V) (ns : List Int) : Prop where
  all : ∀ v ∈ its, ∃ n, Rep v n
  heap : Heaped (keyR Rep) its 0
  perm : (its.map (valR Rep)).Perm ns

theorem HeapOf.length {Rep : V → Int → Prop} {its : List V} {ns : List Int} (H : HeapOf Rep its ns) : its.length = ns.length := by
  have := H.perm.length_eq; simpa using this
theorem HeapOf.nil {Rep : V → Int → Prop} : HeapOf Rep ([] : List V) [] := ⟨(fun _ h => nomatch h), (fun i h0 hi => absurd hi (Nat.not_lt_zero _)), List.Perm.refl _⟩
theorem HeapOf.reperm {Rep : V → Int → Prop} {its : List V} {ns ns' : List Int} (H : HeapOf Rep its ns) (p : ns.Perm ns') : HeapOf Rep its ns' := ⟨H.all, H.heap, H.perm.trans p⟩

theorem HeapOf.push {Rep : V → Int → Prop} (U : Fun Rep) {its : List V} {ns : List Int} {x : V} {m : Int} (H : HeapOf Rep its ns) (hx : Rep x m) : HeapOf Rep (sdown (keyR Rep) x 0 its.length (its ++ [x])) (m :: ns) where
  all := fun v hv => by
    rcases List.mem_cons.mp (push_perm.mem_iff.mp hv) with h | h
    · subst h; exact ⟨m, hx⟩
    · exact H.all v h
  heap := push_heaped H.heap
  perm := (push_perm.map _).trans (by rw [List.map_cons, valR_eq U hx]; exact H.perm.cons m)

theorem HeapOf.least {Rep : V → Int → Prop} (U : Fun Rep) {its : List V} {ns : List Int} (H : HeapOf Rep its ns) (h0 : 0 < its.length) : ∃ m rest, Rep (at' its 0) m ∧ ns.Perm (m :: rest) ∧ (∀ k ∈ ns, rank m ≤ rank k) ∧ valR Rep (at' its 0) = m := by
  cases its with
  | nil => simp at h0
  | cons x r =>
    have e : at' (x :: r) 0 = x := by simp [at', List.getD]
    obtain ⟨m, hm⟩ := H.all x (.head _)
    rw [e]
    refine ⟨m, r.map (valR Rep), hm, ?_, fun k hk => ?_, valR_eq U hm⟩
    · refine H.perm.symm.trans ?_
      rw [List.map_cons, valR_eq U hm]
    · obtain ⟨v, hv, rfl⟩ := List.mem_map.mp (H.perm.mem_iff.mpr hk)
      obtain ⟨i, hi, rfl⟩ := List.mem_iff_getElem.mp hv
      have := H.heap.least i hi
      rw [e, keyR_eq U hm] at this
      have e2 : at' (x :: r) i = (x :: r)[i] := by simp only [at', List.getD, List.getElem?_eq_getElem hi, Option.getD_some]
      rw [e2] at this
      exact this

theorem HeapOf.pop {Rep : V → Int → Prop} (U : Fun Rep) {its : List V} {y : V} {ns : List Int} (H : HeapOf Rep (its ++ [y]) ns) (h0 : 0 < its.length) :
    ∃ m rest, Rep (at' its 0) m ∧ ns.Perm (m :: rest) ∧ (∀ k ∈ ns, rank m ≤ rank k) ∧ HeapOf Rep (sup (keyR Rep) 0 (its.set 0 y)) rest := by
  obtain ⟨m, rest, h1, h2, h3, h4⟩ := H.least U (by simp)
  have e : at' (its ++ [y]) 0 = at' its 0 := by simp only [at', List.getD, List.getElem?_append_left h0]
  rw [e] at h1 h4
  have P := pop_perm (key := keyR Rep) (y := y) h0
  refine ⟨m, rest, h1, h2, h3, fun v hv => H.all v (P.mem_iff.mp (.tail _ hv)), pop_heaped h0 H.heap, ?_⟩
  have Q := (P.map (valR Rep)).trans (H.perm.trans h2)
  rw [List.map_cons, h4] at Q
  exact (List.perm_cons m).mp Q

theorem HeapOf.pop1 {Rep : V → Int → Prop} (U : Fun Rep) {y : V} {ns : List Int} (H : HeapOf Rep [y] ns) : ∃ m, Rep y m ∧ ns = [m] := by
  obtain ⟨m, hm⟩ := H.all y (.head _)
  refine ⟨m, hm, ?_⟩
  have := H.perm
  rw [List.map_cons, List.map_nil, valR_eq U hm] at this
  exact List.perm_singleton.mp this.symm

theorem HeapOf.replace {Rep : V → Int → Prop} (U : Fun Rep) {its : List V} {y : V} {k : Int} {ns : List Int} (H : HeapOf Rep its ns) (hy : Rep y k) (h0 : 0 < its.length) :
    ∃ m rest, Rep (at' its 0) m ∧ ns.Perm (m :: rest) ∧ (∀ j ∈ ns, rank m ≤ rank j) ∧ HeapOf Rep (sup (keyR Rep) 0 (its.set 0 y)) (k :: rest) := by
  obtain ⟨m, rest, h1, h2, h3, h4⟩ := H.least U h0
  have P := replace_perm (key := keyR Rep) (y := y) h0
  refine ⟨m, rest, h1, h2, h3, fun v hv => ?_, replace_heaped h0 H.heap, ?_⟩
  · rcases List.mem_cons.mp (P.mem_iff.mp (.tail _ hv)) with h | h
    · subst h; exact ⟨k, hy⟩
    · exact H.all v h
  · have Q := P.map (valR Rep)
    rw [List.map_cons, List.map_cons, h4, valR_eq U hy] at Q
    have Q2 := Q.trans (((H.perm.trans h2).cons k).trans (List.Perm.swap m k rest))
    exact (List.perm_cons m).mp Q2

theorem HeapOf.heapify {Rep : V → Int → Prop} {its : List V} (h : ∀ v ∈ its, ∃ n, Rep v n) : HeapOf Rep (hfy (keyR Rep) (its.length / 2) its) (its.map (valR Rep)) where
  all := fun v hv => h v ((hfy_perm _ _ (by omega)).mem_iff.mp hv)
  heap := heapify_heaped
  perm := (hfy_perm _ _ (by omega)).map _

theorem HeapOf.mono {Rep Rep' : V → Int → Prop} (U' : Fun Rep') {its : List V} {ns : List Int} (H : HeapOf Rep its ns) (k : ∀ v n, Rep v n → Rep' v n) : HeapOf Rep' its ns := by
  have e : ∀ v ∈ its, valR Rep' v = valR Rep v := fun v hv => valR_eq U' (k _ _ (valR_rep (H.all v hv)))
  refine ⟨fun v hv => let ⟨n, h⟩ := H.all v hv; ⟨n, k _ _ h⟩, ?_, ?_⟩
  · intro i h0 hi hs
    have := H.heap i h0 hi hs
    have m1 : at' its i ∈ its := by simp [at', List.getD, hi]
    have m2 : at' its ((i - 1) / 2) ∈ its := by
      have : (i - 1) / 2 < its.length := by omega
      simp [at', List.getD, this]
    unfold keyR at this ⊢
    rw [e _ m1, e _ m2]; exact this
  · rw [List.map_congr_left e]; exact H.perm
end
end Mine

/-! two lists side by side; the trace of a search; what it leads to -/
set_option linter.unusedSectionVars false
namespace Mine

inductive All2 {α β : Type} (R : α → β → Prop) : List α → List β → Prop
  | nil : All2 R [] []
  | cons {a : α} {b : β} {l : List α} {m : List β} : R a b → All2 R l m → All2 R (a :: l) (b :: m)
section
variable {α β : Type} {R R' : α → β → Prop} {l l' : List α} {m m' : List β} {a : α} {b : β}
theorem All2.length (h : All2 R l m) : l.length = m.length := by induction h <;> simp_all
theorem All2.mono (h : All2 R l m) (k : ∀ a b, R a b → R' a b) : All2 R' l m := by
  induction h with
  | nil => exact .nil
  | cons x _ ih => exact .cons (k _ _ x) ih
theorem All2.append (h : All2 R l m) (h' : All2 R l' m') : All2 R (l ++ l') (m ++ m') := by
  induction h with
  | nil => exact h'
  | cons x _ ih => exact .cons x ih
theorem All2.snoc (h : All2 R l m) (x : R a b) : All2 R (l ++ [a]) (m ++ [b]) := h.append (.cons x .nil)
theorem All2.mem (h : All2 R l m) : ∀ a ∈ l, ∃ b, b ∈ m ∧ R a b := by
  induction h with
  | nil => intro a ha; cases ha
  | cons x _ ih =>
    intro a ha
    rcases List.mem_cons.mp ha with h | h
    · subst h; exact ⟨_, .head _, x⟩
    · obtain ⟨b, hb, r⟩ := ih a h; exact ⟨b, .tail _ hb, r⟩
theorem All2.get (h : All2 R l m) : ∀ (i : Nat) (a : α), l[i]? = some a → ∃ b, m[i]? = some b ∧ R a b := by
  induction h with
  | nil => intro i a h; simp at h
  | cons x _ ih =>
    intro i a h
    cases i with
    | zero => simp at h; subst h; exact ⟨_, rfl, x⟩
    | succ i => simpa using ih i a (by simpa using h)
theorem All2.drop (h : All2 R l m) : ∀ k, All2 R (l.drop k) (m.drop k) := by
  induction h with
  | nil => intro k; simp; exact .nil
  | cons x r ih =>
    intro k
    cases k with
    | zero => exact .cons x r
    | succ k => simpa using ih k
theorem All2.take (h : All2 R l m) : ∀ k, All2 R (l.take k) (m.take k) := by
  induction h with
  | nil => intro k; simp; exact .nil
  | cons x r ih =>
    intro k
    cases k with
    | zero => simpa using All2.nil
    | succ k => simpa using All2.cons x (ih k)
end
theorem All2.vals {V : Type} {Rep : V → Int → Prop} {l : List V} {m : List Int} [Inhabited V] (U : Fun Rep) (h : All2 Rep l m) : l.map (valR Rep) = m := by
  induction h with
  | nil => rfl
  | cons x _ ih => rw [List.map_cons, ih, valR_eq U x]
theorem take_snoc {α : Type} {l : List α} {i : Nat} {a : α} (h : l[i]? = some a) : l.take (i + 1) = l.take i ++ [a] := by
  rw [List.take_add_one, h]; rfl

/-- what is told, and what the heap holds behind it -/
inductive Trace (ls S : List Int) : List Int → List Int → Prop
  | start {H : List Int} : S.Perm H → Trace ls S [] H
  | turn {T H rest H' : List Int} {m : Int} : Trace ls S T H → H.Perm (m :: rest) → (∀ i ∈ H, rank m ≤ rank i) → (ls.map (child m) ++ rest).Perm H' → Trace ls S (T ++ [m]) H'

/-- good for the turn k -/
structure Good (N k : Nat) (H : List Int) : Prop where
  ne : H ≠ []
  len : H.length ≤ N + 3 * k
  num : ∀ n ∈ H, n ≠ 0 ∧ n.natAbs < 16 ^ (5 + k)

theorem Good.perm {N k : Nat} {H H' : List Int} (g : Good N k H) (p : H.Perm H') : Good N k H' :=
  ⟨fun e => g.ne (by subst e; exact p.eq_nil), by rw [← p.length_eq]; exact g.len, fun n hn => g.num n (p.mem_iff.mpr hn)⟩
theorem Good.step {N k : Nat} {H rest ls : List Int} {m : Int} (g : Good N k H) (p : H.Perm (m :: rest)) (hls : ls ≠ []) (hl4 : ls.length ≤ 4) (hd : ∀ d ∈ ls, (0 : Int) ≤ d ∧ d < 16) : Good N (k + 1) (ls.map (child m) ++ rest) := by
  have hm := g.num m (p.mem_iff.mpr (.head _))
  refine ⟨?_, ?_, fun n hn => ?_⟩
  · intro e
    have := congrArg List.length e
    simp at this
    exact hls this.1
  · have := g.len; have e := p.length_eq
    simp at e ⊢; omega
  · rcases List.mem_append.mp hn with q | q
    · obtain ⟨d, hd', rfl⟩ := List.mem_map.mp q
      have := hd d hd'
      refine ⟨child_ne hm.1 this.1, ?_⟩
      rw [child_abs hm.1 this.1, show 5 + (k + 1) = (5 + k) + 1 by omega, Nat.pow_succ]
      omega
    · have := g.num n (p.mem_iff.mpr (.tail _ q))
      refine ⟨this.1, Nat.lt_of_lt_of_le this.2 (Nat.pow_le_pow_right (by decide) (by omega))⟩
end Mine

/-! all that the starts and the letters lead to, up to a size -/
namespace Mine

noncomputable def reach (B : Nat) (ls : List Int) : Nat → Int → List Int
  | 0, _ => []
  | f + 1, n => if n.natAbs ≤ B then n :: ls.flatMap (fun d => reach B ls f (child n d)) else []
noncomputable def Digits (ls : List Int) : Prop := ∀ d ∈ ls, (0 : Int) ≤ d ∧ d < 16

theorem flatMap_congr {α β : Type} {f g : α → List β} : ∀ {l : List α}, (∀ a ∈ l, f a = g a) → l.flatMap f = l.flatMap g
  | [], _ => rfl
  | a :: l, h => by rw [List.flatMap_cons, List.flatMap_cons, h a (.head _), flatMap_congr fun b hb => h b (.tail _ hb)]

theorem reach_stable {B : Nat} {ls : List Int} (D : Digits ls) : ∀ (f : Nat) (n : Int), n ≠ 0 → B < f + n.natAbs → reach B ls (f + 1) n = reach B ls f n := by
  intro f
  induction f with
  | zero =>
    intro n hn hB
    simp only [reach]
    rw [if_neg (by omega)]
  | succ f ih =>
    intro n hn hB
    rw [reach]
    conv => rhs; rw [reach]
    split
    · congr 1
      refine flatMap_congr fun d hd => ?_
      have := D d hd
      refine ih _ (child_ne hn this.1) ?_
      rw [child_abs hn this.1]; omega
    · rfl
noncomputable def RB (B : Nat) (ls : List Int) (n : Int) : List Int := reach B ls (B + 1) n
theorem RB_eq {B : Nat} {ls : List Int} (D : Digits ls) {n : Int} (hn : n ≠ 0) : RB B ls n = if n.natAbs ≤ B then n :: (ls.map (child n)).flatMap (RB B ls) else [] := by
  unfold RB
  rw [reach]
  split
  · congr 1
    rw [List.flatMap_map]
    refine flatMap_congr fun d hd => ?_
    have := D d hd
    have hc := child_abs hn this.1
    exact (reach_stable D B _ (child_ne hn this.1) (by omega)).symm
  · rfl
noncomputable def RBL (B : Nat) (ls S : List Int) : List Int := S.flatMap (RB B ls)
theorem RBL_cons {B : Nat} {ls : List Int} {n : Int} {S : List Int} : RBL B ls (n :: S) = RB B ls n ++ RBL B ls S := by unfold RBL; rw [List.flatMap_cons]
theorem RBL_append {B : Nat} {ls : List Int} {S S' : List Int} : RBL B ls (S ++ S') = RBL B ls S ++ RBL B ls S' := by unfold RBL; rw [List.flatMap_append]
theorem RBL_perm {B : Nat} {ls S S' : List Int} (h : S.Perm S') : (RBL B ls S).Perm (RBL B ls S') := by
  induction h with
  | nil => exact .refl _
  | cons x _ ih => rw [RBL_cons, RBL_cons]; exact ih.append_left _
  | swap x y l =>
    rw [RBL_cons, RBL_cons, RBL_cons, RBL_cons, ← List.append_assoc, ← List.append_assoc]
    exact List.perm_append_comm.append_right _
  | trans _ _ h1 h2 => exact h1.trans h2
theorem RBL_filter {B : Nat} {ls : List Int} (D : Digits ls) : ∀ {S : List Int}, (∀ n ∈ S, n ≠ 0) → RBL B ls (S.filter fun n => decide (n.natAbs ≤ B)) = RBL B ls S
  | [], _ => rfl
  | n :: S, h => by
    have ih := RBL_filter D (B := B) (S := S) fun m hm => h m (.tail _ hm)
    rw [List.filter_cons]
    split
    · rw [RBL_cons, RBL_cons, ih]
    · rename_i q
      rw [RBL_cons, RB_eq D (h n (.head _)), if_neg (by simpa using q), ih]; rfl
/-- one turn of the walk: n is done, its children come behind -/
theorem RBL_turn {B : Nat} {ls : List Int} (D : Digits ls) {n : Int} {rest : List Int} (hn : n ≠ 0) (hB : n.natAbs ≤ B) : (RBL B ls (n :: rest)).Perm (n :: RBL B ls (rest ++ (ls.map (child n)).filter fun n => decide (n.natAbs ≤ B))) := by
  rw [RBL_cons, RB_eq D hn, if_pos hB, RBL_append, RBL_filter D]
  · rw [List.cons_append]
    exact (List.perm_append_comm).cons n
  · intro m hm
    obtain ⟨d, hd, rfl⟩ := List.mem_map.mp hm
    exact child_ne hn (D d hd).1
theorem RBL_length {B : Nat} {ls : List Int} (D : Digits ls) : ∀ {S : List Int}, (∀ n ∈ S, n ≠ 0 ∧ n.natAbs ≤ B) → S.length ≤ (RBL B ls S).length
  | [], _ => Nat.zero_le _
  | n :: S, h => by
    have ih := RBL_length D (B := B) (S := S) fun m hm => h m (.tail _ hm)
    rw [RBL_cons, RB_eq D (h n (.head _)).1, if_pos (h n (.head _)).2]
    simp; omega

theorem rank_abs {a b : Int} (h : rank a ≤ rank b) : a.natAbs ≤ b.natAbs := by unfold rank at h; split at h <;> split at h <;> omega
theorem child_rank {n d : Int} (hn : n ≠ 0) (hd : 0 ≤ d) : rank n ≤ rank (child n d) := by
  have := child_abs hn hd
  unfold rank; split <;> split <;> omega

theorem reach_rank {B : Nat} {ls : List Int} (D : Digits ls) : ∀ (f : Nat) (n : Int), n ≠ 0 → ∀ x ∈ reach B ls f n, rank n ≤ rank x := by
  intro f
  induction f with
  | zero => intro n _ x hx; cases hx
  | succ f ih =>
    intro n hn x hx
    rw [reach] at hx
    split at hx
    · rcases List.mem_cons.mp hx with h | h
      · subst h; exact Nat.le_refl _
      · obtain ⟨d, hd, h⟩ := List.mem_flatMap.mp h
        have := D d hd
        exact Nat.le_trans (child_rank hn this.1) (ih _ (child_ne hn this.1) x h)
    · cases hx
theorem RBL_rank {B : Nat} {ls S : List Int} (D : Digits ls) {r : Nat} (h : ∀ n ∈ S, n ≠ 0 ∧ r ≤ rank n) : ∀ x ∈ RBL B ls S, r ≤ rank x := by
  intro x hx
  obtain ⟨n, hn, hx⟩ := List.mem_flatMap.mp hx
  exact Nat.le_trans (h n hn).2 (reach_rank D _ n (h n hn).1 x hx)

/-- what holds along a trace -/
structure Told (S : List Int) (T H : List Int) : Prop where
  ne : ∀ n ∈ H, n ≠ 0
  sorted : T.Pairwise fun a b => rank a ≤ rank b
  below : ∀ x ∈ T, ∀ n ∈ H, rank x ≤ rank n
theorem Trace.told {ls S T H : List Int} (D : Digits ls) (hS : ∀ n ∈ S, n ≠ 0) (t : Trace ls S T H) : Told S T H := by
  induction t with
  | start p => exact ⟨fun n hn => hS n (p.mem_iff.mpr hn), List.Pairwise.nil, fun x hx => nomatch hx⟩
  | @turn T H rest H' m t p hle q ih =>
    have hm := ih.ne m (p.mem_iff.mpr (.head _))
    refine ⟨fun n hn => ?_, ?_, fun x hx n hn => ?_⟩
    · rcases List.mem_append.mp (q.mem_iff.mpr hn) with h | h
      · obtain ⟨d, hd, rfl⟩ := List.mem_map.mp h
        exact child_ne hm (D d hd).1
      · exact ih.ne n (p.mem_iff.mpr (.tail _ h))
    · refine List.pairwise_append.mpr ⟨ih.sorted, List.pairwise_singleton _ _, fun x hx y hy => ?_⟩
      simp only [List.mem_singleton] at hy
      subst hy
      exact ih.below x hx _ (p.mem_iff.mpr (.head _))
    · have hmn : rank m ≤ rank n := by
        rcases List.mem_append.mp (q.mem_iff.mpr hn) with h | h
        · obtain ⟨d, hd, rfl⟩ := List.mem_map.mp h
          exact child_rank hm (D d hd).1
        · exact hle n (p.mem_iff.mpr (.tail _ h))
      rcases List.mem_append.mp hx with h | h
      · exact Nat.le_trans (ih.below x h m (p.mem_iff.mpr (.head _))) hmn
      · simp only [List.mem_singleton] at h; subst h; exact hmn
theorem Trace.reaches {ls S T H : List Int} {B : Nat} (D : Digits ls) (hS : ∀ n ∈ S, n ≠ 0) (t : Trace ls S T H) (hB : ∀ x ∈ T, x.natAbs ≤ B) : (RBL B ls S).Perm (T ++ RBL B ls H) := by
  induction t with
  | start p => exact RBL_perm p
  | @turn T H rest H' m t p hle q ih =>
    have told := t.told D hS
    have hm := told.ne m (p.mem_iff.mpr (.head _))
    have hBm := hB m (List.mem_append_right _ (.head _))
    refine (ih fun x hx => hB x (List.mem_append_left _ hx)).trans ?_
    rw [List.append_assoc]
    refine List.Perm.append_left T ((RBL_perm p).trans ?_)
    rw [RBL_cons, RB_eq D hm, if_pos hBm]
    refine List.Perm.cons m ?_
    refine List.Perm.trans ?_ (RBL_perm q)
    rw [RBL_append]
    exact .refl _

/-- at the end: the trace's last number bounds what is reached -/
theorem reached_few {ls S T H : List Int} {z : Int} (D : Digits ls) (hS : ∀ n ∈ S, n ≠ 0) (t : Trace ls S T H) (hz : T.getLast? = some z) :
    (RBL z.natAbs ls S).Perm (T ++ RBL z.natAbs ls H) ∧ (∀ x ∈ T, ∀ y ∈ RBL z.natAbs ls H, rank x ≤ rank y) ∧ (RBL z.natAbs ls H).length ≤ H.length := by
  have told := t.told D hS
  have hzT : z ∈ T := List.mem_of_getLast? hz
  have hmax : ∀ x ∈ T, rank x ≤ rank z := by
    obtain ⟨T', rfl⟩ := List.getLast?_eq_some_iff.mp hz
    intro x hx
    rcases List.mem_append.mp hx with h | h
    · exact (List.pairwise_append.mp told.sorted).2.2 x h z (.head _)
    · simp only [List.mem_singleton] at h; subst h; exact Nat.le_refl _
  refine ⟨t.reaches D hS fun x hx => rank_abs (hmax x hx), fun x hx => RBL_rank D fun n hn => ⟨told.ne n hn, told.below x hx n hn⟩, ?_⟩
  have hH : ∀ n ∈ H, n ≠ 0 ∧ z.natAbs ≤ n.natAbs := fun n hn => ⟨told.ne n hn, rank_abs (told.below z hzT n hn)⟩
  clear hmax told hzT hz t
  have one : ∀ n, n ≠ 0 → z.natAbs ≤ n.natAbs → (RB z.natAbs ls n).length ≤ 1 := by
    intro n h0 h1
    rw [RB_eq D h0]
    split
    · have : (ls.map (child n)).flatMap (RB z.natAbs ls) = [] := by
        rw [List.flatMap_eq_nil_iff]
        intro c hc
        obtain ⟨d, hd, rfl⟩ := List.mem_map.mp hc
        have hd' := D d hd
        rw [RB_eq D (child_ne h0 hd'.1), if_neg (by rw [child_abs h0 hd'.1]; omega)]
      rw [this]; simp
    · simp
  induction H with
  | nil => simp [RBL]
  | cons n H ih =>
    have := ih fun m hm => hH m (.tail _ hm)
    have h1 := one n (hH n (.head _)).1 (hH n (.head _)).2
    rw [RBL_cons]; simp; omega

/-- the first ones of a sorted row -/
theorem sorted_prefix : ∀ (T K ns : List Int), ns.Pairwise (fun a b => rank a ≤ rank b) → ns.Perm (T ++ K) → T.Pairwise (fun a b => rank a ≤ rank b) → (∀ x ∈ T, ∀ y ∈ K, rank x ≤ rank y) → ns.take T.length = T
  | [], _, _, _, _, _, _ => rfl
  | a :: T, K, ns, h1, h2, h3, h4 => by
    cases ns with
    | nil => have := h2.length_eq; simp at this
    | cons b ns =>
      rw [List.pairwise_cons] at h1 h3
      have hab : rank a ≤ rank b := by
        rcases List.mem_append.mp (h2.mem_iff.mp (.head _)) with h | h
        · rcases List.mem_cons.mp h with h | h
          · rw [h]; exact Nat.le_refl _
          · exact h3.1 b h
        · exact h4 a (.head _) b h
      have hba : rank b ≤ rank a := by
        rcases List.mem_cons.mp (h2.mem_iff.mpr (List.mem_append_left K (.head _))) with h | h
        · rw [h]; exact Nat.le_refl _
        · exact h1.1 a h
      have e : b = a := rank_inj (Nat.le_antisymm hba hab)
      subst e
      rw [List.length_cons, List.take_succ_cons, sorted_prefix T K ns h1.2 ((List.perm_cons b).mp h2) h3.2 fun x hx y hy => h4 x (.tail _ hx) y hy]
end Mine

open PySem PySem.W PyProof.Rows
namespace Mine

/-- what the run has laid: the module's names, the built-ins, the system's state -/
structure Par where
  mg : Str → Option Value
  mb : Str → Option Value
  os : OsState

abbrev defs : List DefRec := recsOf Challenge.pw_mr0119_01
noncomputable def biNames : List Str := ["len", "range", "reversed", "abs", "divmod", "int", "bytes", "sorted"]

structure Wd (P : Par) (h : Heap) : Prop where
  g : h.Ns mainGlobals P.mg
  b : h.Ns builtinsNs P.mb
  nolimit : h.NoLimit
  fn : ∀ d ∈ defs, ∃ a o pm code doc, P.mg d.name = some (.ref a) ∧ h.get? a = some o ∧ o.data = .func (Calls.docDef d.name d.params d.body d.scope pm code doc) ∧ h.CodeRec code d.name
  bi : ∀ x ∈ biNames, P.mg x = none ∧ P.mb x = bootBuiltins x

abbrev Sub (g h : Heap) : Prop := ∀ b o, g.get? b = some o → h.get? b = some o

theorem Wd.keeps {P : Par} {h h' : Heap} (W : Wd P h) (k : Sub h h') : Wd P h' where
  g := W.g.keeps k
  b := W.b.keeps k
  nolimit := W.nolimit.keeps k
  fn := fun d hd => let ⟨a, o, pm, c, doc, h1, h2, h3, h4⟩ := W.fn d hd; ⟨a, o, pm, c, doc, h1, k _ _ h2, h3, h4.keeps k⟩
  bi := W.bi

/-- a state: the kept part g, the ledger of what may change -/
structure St (P : Par) (G : Heap) (X : List (Addr × Obj)) (s : Shared) : Prop where
  wd : Wd P G
  keep : Sub G s.heap
  has : ∀ p ∈ X, s.heap.get? p.1 = some p.2
  sep : ∀ p ∈ X, G.get? p.1 = none
  nd : (X.map (·.1)).Nodup
  gens : s.gens = #[]
  os : s.os = P.os

/-- a state with a frame's locals -/
structure FS (P : Par) (G : Heap) (L : Addr) (ms : List (Str × Value)) (X : List (Addr × Obj)) (s : Shared) : Prop where
  st : St P G X s
  ns : ∃ m, s.heap.Ns L m ∧ ∀ x v, ms.lookup x = some v → m x = some v
  lo : G.get? L = none
  ne : ∀ p ∈ X, p.1 ≠ L

inductive Up (a : Addr) (o o' : Obj) : List (Addr × Obj) → List (Addr × Obj) → Prop
  | head {r : List (Addr × Obj)} : Up a o o' ((a, o) :: r) ((a, o') :: r)
  | tail {p : Addr × Obj} {r r' : List (Addr × Obj)} : Up a o o' r r' → Up a o o' (p :: r) (p :: r')

theorem Up.mem {a : Addr} {o o' : Obj} {X X' : List (Addr × Obj)} (u : Up a o o' X X') : (a, o) ∈ X := by
  induction u with
  | head => exact .head _
  | tail _ ih => exact .tail _ ih
theorem Up.addrs {a : Addr} {o o' : Obj} {X X' : List (Addr × Obj)} (u : Up a o o' X X') : X'.map (·.1) = X.map (·.1) := by
  induction u with
  | head => rfl
  | tail _ ih => simp [ih]
theorem Up.mem' {a : Addr} {o o' : Obj} {X X' : List (Addr × Obj)} (u : Up a o o' X X') (nd : (X.map (·.1)).Nodup) : ∀ p ∈ X', p = (a, o') ∨ (p ∈ X ∧ p.1 ≠ a) := by
  induction u with
  | @head r =>
    intro p hp
    rcases List.mem_cons.mp hp with h | h
    · exact .inl h
    · refine .inr ⟨.tail _ h, fun e => ?_⟩
      simp only [List.map_cons, List.nodup_cons] at nd
      exact nd.1 (e ▸ List.mem_map_of_mem h)
  | @tail q r r' u ih =>
    intro p hp
    simp only [List.map_cons, List.nodup_cons] at nd
    rcases List.mem_cons.mp hp with h | h
    · subst h
      refine .inr ⟨.head _, fun e => nd.1 ?_⟩
      rw [e]; exact List.mem_map_of_mem u.mem
    · rcases ih nd.2 p h with h | h
      · exact .inl h
      · exact .inr ⟨.tail _ h.1, h.2⟩

section
variable {P : Par} {G : Heap} {L : Addr} {ms ms' : List (Str × Value)} {X X' : List (Addr × Obj)} {s s' : Shared}

theorem St.fresh (S : St P G X s) {a : Addr} (h : s.heap.objs.size ≤ a) : G.get? a = none := by
  cases q : G.get? a with
  | none => rfl
  | some o => exact absurd (Heap.lt_size (S.keep _ _ q)) (Nat.not_lt.mpr h)

theorem St.alloc (S : St P G X s) (o : Obj) (hf : o.isFreed = false := by rfl) : St P G ((s.heap.objs.size, o) :: X) { s with heap := s.heap.push o } where
  wd := S.wd
  keep := fun b o' e => Heap.get?_push_of_some _ (S.keep b o' e)
  has := fun p hp => by
    rcases List.mem_cons.mp hp with h | h
    · subst h; exact Heap.get?_push_size _ hf
    · exact Heap.get?_push_of_some _ (S.has p h)
  sep := fun p hp => by
    rcases List.mem_cons.mp hp with h | h
    · subst h; exact S.fresh (Nat.le_refl _)
    · exact S.sep p h
  nd := by
    simp only [List.map_cons, List.nodup_cons]
    refine ⟨fun h => ?_, S.nd⟩
    obtain ⟨p, hp, e⟩ := List.mem_map.mp h
    have := Heap.lt_size (S.has p hp)
    exact absurd (e ▸ this) (Nat.lt_irrefl _)
  gens := S.gens
  os := S.os

theorem FS.alloc (F : FS P G L ms X s) (o : Obj) (hf : o.isFreed = false := by rfl) : FS P G L ms ((s.heap.objs.size, o) :: X) { s with heap := s.heap.push o } where
  st := F.st.alloc o hf
  ns := let ⟨m, h1, h2⟩ := F.ns; ⟨m, h1.push o, h2⟩
  lo := F.lo
  ne := fun p hp => by
    rcases List.mem_cons.mp hp with h | h
    · subst h
      obtain ⟨m, h1, _⟩ := F.ns
      exact Nat.ne_of_gt h1.lt
    · exact F.ne p h

theorem St.toks (S : St P G X s) (t : Nat) : St P G X { s with toks := t } := ⟨S.wd, S.keep, S.has, S.sep, S.nd, S.gens, S.os⟩
theorem FS.toks (F : FS P G L ms X s) (t : Nat) : FS P G L ms X { s with toks := t } := ⟨F.st.toks t, F.ns, F.lo, F.ne⟩

/-- a heap that differs at one entry of the ledger -/
theorem St.upd {a : Addr} {o o' : Obj} {h' : Heap} {t : Nat} (S : St P G X s) (u : Up a o o' X X') (hs : Heap.SameBut a s.heap h') (ho : h'.get? a = some o') : St P G X' { s with heap := h', toks := t } where
  wd := S.wd
  keep := fun b o₁ e => (hs.2 b (fun q => by have := S.sep _ u.mem; rw [← q, e] at this; cases this)).trans (S.keep b o₁ e)
  has := fun p hp => by
    rcases u.mem' S.nd p hp with h | h
    · subst h; exact ho
    · exact (hs.2 p.1 h.2).trans (S.has p h.1)
  sep := fun p hp => by
    rcases u.mem' S.nd p hp with h | h
    · subst h; exact S.sep (a, o) u.mem
    · exact S.sep p h.1
  nd := by rw [u.addrs]; exact S.nd
  gens := S.gens
  os := S.os

theorem FS.upd {a : Addr} {o o' : Obj} {h' : Heap} {t : Nat} (F : FS P G L ms X s) (u : Up a o o' X X') (hs : Heap.SameBut a s.heap h') (ho : h'.get? a = some o') : FS P G L ms X' { s with heap := h', toks := t } where
  st := F.st.upd u hs ho
  ns := let ⟨m, h1, h2⟩ := F.ns; ⟨m, h1.sameBut hs (fun e => F.ne _ u.mem e.symm), h2⟩
  lo := F.lo
  ne := fun p hp => by
    rcases u.mem' F.st.nd p hp with h | h
    · subst h; exact F.ne (a, o) u.mem
    · exact F.ne p h.1

theorem FS.store {x : Str} {v : Value} {h' : Heap} {t : Nat} {m : Str → Option Value} (F : FS P G L ms X s) (hm : ∀ x v, ms.lookup x = some v → m x = some v)
    (hn : h'.Ns L (fun y => if y = x then some v else m y)) (hs : Heap.SameBut L s.heap h') : FS P G L ((x, v) :: ms) X { s with heap := h', toks := t } where
  st := {
    wd := F.st.wd
    keep := fun b o e => (hs.2 b (fun q => by have := F.lo; rw [← q, e] at this; cases this)).trans (F.st.keep b o e)
    has := fun p hp => (hs.2 p.1 (F.ne p hp)).trans (F.st.has p hp)
    sep := F.st.sep
    nd := F.st.nd
    gens := F.st.gens
    os := F.st.os }
  ns := ⟨_, hn, fun y v' e => by
    rw [List.lookup_cons] at e
    by_cases q : y = x
    · subst q; simpa using e
    · have : (y == x) = false := by simpa using q
      rw [this] at e
      simp only [q, if_false]
      exact hm _ _ e⟩
  lo := F.lo
  ne := F.ne

theorem FS.weaken (F : FS P G L ms X s) (c : ∀ x v, ms'.lookup x = some v → ms.lookup x = some v) : FS P G L ms' X s :=
  ⟨F.st, let ⟨m, h1, h2⟩ := F.ns; ⟨m, h1, fun x v e => h2 x v (c x v e)⟩, F.lo, F.ne⟩

theorem cov_nil : ∀ x v, ([] : List (Str × Value)).lookup x = some v → ms.lookup x = some v := fun _ _ e => nomatch e
theorem cov_cons {y : Str} {u : Value} (h : ms.lookup y = some u) (c : ∀ x v, ms'.lookup x = some v → ms.lookup x = some v) : ∀ x v, ((y, u) :: ms').lookup x = some v → ms.lookup x = some v := fun x v e => by
  rw [List.lookup_cons] at e
  by_cases q : x = y
  · subst q; simp only [beq_self_eq_true] at e; cases e; exact h
  · have : (x == y) = false := by simpa using q
    rw [this] at e; exact c x v e

theorem St.drop {p : Addr × Obj} (S : St P G (p :: X) s) : St P G X s :=
  ⟨S.wd, S.keep, fun q hq => S.has q (.tail _ hq), fun q hq => S.sep q (.tail _ hq), (List.nodup_cons.mp (by simpa using S.nd)).2, S.gens, S.os⟩
theorem FS.drop {p : Addr × Obj} (F : FS P G L ms (p :: X) s) : FS P G L ms X s := ⟨F.st.drop, F.ns, F.lo, fun q hq => F.ne q (.tail _ hq)⟩

theorem St.perm (S : St P G X s) (h : List.Perm X X') : St P G X' s :=
  ⟨S.wd, S.keep, fun q hq => S.has q (h.symm.mem_iff.mp hq), fun q hq => S.sep q (h.symm.mem_iff.mp hq), (h.map (·.1)).nodup_iff.mp S.nd, S.gens, S.os⟩
theorem FS.perm (F : FS P G L ms X s) (h : List.Perm X X') : FS P G L ms X' s := ⟨F.st.perm h, F.ns, F.lo, fun q hq => F.ne q (h.symm.mem_iff.mp hq)⟩

/-- all of the heap but some addresses -/
theorem sub_hide {h : Heap} {l : List Addr} (k : Sub G h) (n : ∀ a ∈ l, G.get? a = none) : Sub G (hideAll h l) := fun b o e =>
  hideAll_get l (k b o e) (fun q => by have := n b q; rw [this] at e; cases e)

/-- the whole state but the ledger is kept: what a callee is handed -/
theorem St.most (S : St P G X s) : St P (hideAll s.heap (X.map (·.1))) X s ∧ Sub G (hideAll s.heap (X.map (·.1))) := by
  have k : Sub G (hideAll s.heap (X.map (·.1))) := sub_hide S.keep fun a ha => by
    obtain ⟨p, hp, rfl⟩ := List.mem_map.mp ha
    exact S.sep p hp
  exact ⟨⟨S.wd.keeps k, fun b o e => of_hideAll _ e, S.has, fun p hp => hideAll_none _ (List.mem_map_of_mem hp), S.nd, S.gens, S.os⟩, k⟩

/-- freeze the head of the ledger -/
theorem FS.freeze {a : Addr} {o : Obj} (F : FS P G L ms ((a, o) :: X) s) : ∃ G', Sub G G' ∧ G'.get? a = some o ∧ FS P G' L ms X s := by
  have hnd := F.st.nd
  simp only [List.map_cons, List.nodup_cons] at hnd
  have n : ∀ b ∈ L :: X.map (·.1), G.get? b = none := fun b hb => by
    rcases List.mem_cons.mp hb with h | h
    · subst h; exact F.lo
    · obtain ⟨p, hp, rfl⟩ := List.mem_map.mp h
      exact F.st.sep p (.tail _ hp)
  have k := sub_hide (G := G) (h := s.heap) (l := L :: X.map (·.1)) F.st.keep n
  refine ⟨hideAll s.heap (L :: X.map (·.1)), k, ?_, ?_, F.ns, hideAll_none _ (.head _), fun p hp => F.ne p (.tail _ hp)⟩
  · refine hideAll_get _ (F.st.has _ (.head _)) fun q => ?_
    rcases List.mem_cons.mp q with h | h
    · exact F.ne _ (.head _) h
    · exact hnd.1 h
  · exact ⟨F.st.wd.keeps k, fun b o e => of_hideAll _ e, fun p hp => F.st.has p (.tail _ hp), fun p hp => hideAll_none _ (.tail _ (List.mem_map_of_mem hp)), hnd.2, F.st.gens, F.st.os⟩

/-- what a caller keeps over a call that changes the front part of its ledger -/
theorem FS.call {Y : List (Addr × Obj)} (F : FS P G L ms (Y ++ X) s) :
    ∃ G', St P G' Y s ∧ Sub G G' ∧ ∀ s' Y', St P G' Y' s' → FS P G L ms (Y' ++ X) s' := by
  have S : St P G Y s := ⟨F.st.wd, F.st.keep, fun q hq => F.st.has q (List.mem_append_left _ hq), fun q hq => F.st.sep q (List.mem_append_left _ hq),
    (List.nodup_append.mp (by simpa using F.st.nd)).1, F.st.gens, F.st.os⟩
  obtain ⟨S', k⟩ := S.most
  have ndX : (X.map (·.1)).Nodup := (List.nodup_append.mp (by simpa using F.st.nd)).2.1
  have ap : ∀ a ∈ Y.map (·.1), ∀ b ∈ X.map (·.1), a ≠ b := (List.nodup_append.mp (by simpa using F.st.nd)).2.2
  refine ⟨_, S', k, fun s' Y' T => ?_⟩
  have hL : ∀ o, s.heap.get? L = some o → s'.heap.get? L = some o ∧ (hideAll s.heap (Y.map (·.1))).get? L = some o := fun o e => by
    have e' := hideAll_get (Y.map (·.1)) e (fun q => by obtain ⟨p, hp, e⟩ := List.mem_map.mp q; exact F.ne p (List.mem_append_left _ hp) e)
    exact ⟨T.keep _ _ e', e'⟩
  have hX : ∀ p ∈ X, (hideAll s.heap (Y.map (·.1))).get? p.1 = some p.2 := fun p hp =>
    hideAll_get _ (F.st.has p (List.mem_append_right _ hp)) fun q => ap _ q _ (List.mem_map_of_mem hp) rfl
  refine ⟨⟨F.st.wd, fun b o e => T.keep b o (k b o e), fun p hp => ?_, fun p hp => ?_, ?_, T.gens, T.os⟩, ?_, F.lo, fun p hp => ?_⟩
  · rcases List.mem_append.mp hp with h | h
    · exact T.has p h
    · exact T.keep _ _ (hX p h)
  · rcases List.mem_append.mp hp with h | h
    · cases q : G.get? p.1 with
      | none => rfl
      | some o => have := T.sep p h; rw [k _ _ q] at this; cases this
    · exact F.st.sep p (List.mem_append_right _ h)
  · rw [List.map_append]
    refine List.nodup_append.mpr ⟨T.nd, ndX, fun a ha b hb e => ?_⟩
    obtain ⟨p, hp, rfl⟩ := List.mem_map.mp ha
    obtain ⟨q, hq, rfl⟩ := List.mem_map.mp hb
    have := T.sep p hp
    rw [e, hX q hq] at this; cases this
  · obtain ⟨m, ⟨o, es, ep, ho, r⟩, h2⟩ := F.ns
    exact ⟨m, ⟨o, es, ep, (hL o ho).1, r⟩, h2⟩
  · rcases List.mem_append.mp hp with h | h
    · intro e
      obtain ⟨m, ⟨o, es, ep, ho, r⟩, h2⟩ := F.ns
      have := T.sep p h
      rw [e, (hL o ho).2] at this; cases this
    · exact F.ne p (List.mem_append_right _ h)
end
end Mine

namespace Mine

noncomputable def fnNames : List Str := ["heappush", "heappop", "heapreplace", "heapify", "_siftdown", "_siftup", "Int2AP", "_law_word", "_law_letters", "_law_starts", "_law_child", "_law_told", "_law_due", "law"]
theorem defs_names : defs.map (·.name) = fnNames := by rfl

theorem Wd.fnAt {P : Par} {h : Heap} (W : Wd P h) {x : Str} (hx : x ∈ fnNames) : ∃ a o fd, P.mg x = some (.ref a) ∧ h.get? a = some o ∧ o.data = .func fd := by
  rw [← defs_names] at hx
  obtain ⟨d, hd, rfl⟩ := List.mem_map.mp hx
  obtain ⟨a, o, pm, c, doc, h1, h2, h3, _⟩ := W.fn d hd
  exact ⟨a, o, _, h1, h2, h3⟩

structure Room (A : Around) (k : Nat) : Prop where
  depth : A.depth + k < recursionLimit
  units : A.units + 20 * k + 100 < cLine
  handled : A.handled = none
theorem Room.deeper {A : Around} {k : Nat} {env : Env} (R : Room A (k + 1)) : Room (A.deeper env) k := ⟨by have := R.depth; simp only [Around.deeper]; omega, by have := R.units; simp only [Around.deeper]; omega, R.handled⟩
theorem Room.less {A : Around} {k j : Nat} (R : Room A k) (h : j ≤ k) : Room A j := ⟨by have := R.depth; omega, by have := R.units; omega, R.handled⟩

/-- no exception -/
abbrev nE : Value → Shared → Prop := fun _ _ => False
theorem noE {α : Type} {M : Model} {A : Around} {t : Sem α} {Q : α → Shared → Prop} {E : Value → Shared → Prop} {s : Shared} (h : wpAny M A t Q nE s) : wpAny M A t Q E s := wpAny_mono h (fun _ _ x => x) fun _ _ x => x.elim

section
variable {prog : Program} {w : World} {A : Around} {E : Value → Shared → Prop} {s : Shared} {P : Par} {G : Heap} {L a : Addr} {ms : List (Str × Value)} {X X' : List (Addr × Obj)} {env : Env} {x : Str} {pos p : Pos}

theorem ldF {M : Model} {v : Value} {Q : Value → Shared → Prop} (F : FS P G L ms X s) (hv : ms.lookup x = some v) (h : Q v s)
    (hk : env.scope.kind = .function := by rfl) (hl : env.kindOf x = some .local := by rfl) (hd : (x == ("__debug__" : Str)) = false := by decide) (hL : env.locals = L := by rfl) :
    wpAny M A (eval (.Name x pos) env) Q E s :=
  let ⟨_, h1, h2⟩ := F.ns; wpAny_Name (wpAny_loadName_local hk hl (hL.symm ▸ h1) (h2 _ _ hv) h) hd

theorem stF {M : Model} {v : Value} {Q : Unit → Shared → Prop} (F : FS P G L ms X s)
    (h : ∀ s', FS P G L ((x, v) :: ms) X s' → Q () s')
    (hk : env.scope.kind = .function := by rfl) (hl : env.kindOf x = some .local := by rfl) (hL : env.locals = L := by rfl) :
    wpAny M A (storeName env x v) Q E s := by
  subst hL
  obtain ⟨m, h1, h2⟩ := F.ns
  exact wpAny_storeName_local hl h1 (fun _ hn hs => h _ (F.store h2 hn hs)) (by rw [hk]; rfl)

theorem ldD {M : Model} {Q : Value → Shared → Prop} (F : FS P G L ms X s) (hx : x ∈ fnNames) (h : ∀ fa, P.mg x = some (.ref fa) → Q (.ref fa) s)
    (hk : env.scope.kind = .function := by rfl) (hl : env.kindOf x = some .globalImplicit := by rfl) (hd : (x == ("__debug__" : Str)) = false := by decide) (hg : env.globals = mainGlobals := by rfl) :
    wpAny M A (eval (.Name x pos) env) Q E s :=
  let ⟨_, _, _, h1, _, _⟩ := F.st.wd.fnAt hx
  Calls.Name_function_global hk hl (Calls.loadGlobal_global (env := env) (hg.symm ▸ F.st.wd.g.keeps F.st.keep) h1 (h _ h1)) hd

theorem ldB {M : Model} {v : Value} {Q : Value → Shared → Prop} (F : FS P G L ms X s) (hx : x ∈ biNames) (hv : bootBuiltins x = some v) (h : Q v s)
    (hk : env.scope.kind = .function := by rfl) (hl : env.kindOf x = some .globalImplicit := by rfl) (hd : (x == ("__debug__" : Str)) = false := by decide) (hg : env.globals = mainGlobals := by rfl) (hb : env.builtins = builtinsNs := by rfl) :
    wpAny M A (eval (.Name x pos) env) Q E s :=
  Calls.Name_function_global hk hl (Calls.loadGlobal_builtin (env := env) (hg.symm ▸ F.st.wd.g.keeps F.st.keep) (F.st.wd.bi x hx).1 (hb.symm ▸ F.st.wd.b.keeps F.st.keep) ((F.st.wd.bi x hx).2.trans hv) h) hd

/-- a call of a def of the text -/
theorem callD {e : Expr} {rest : List Expr} {Q : Value → Shared → Prop} (F : FS P G L ms X s) (hx : x ∈ fnNames)
    (h : ∀ fa, P.mg x = some (.ref fa) → wpAny (model prog w) A (spliced (backTo pos (starEach (e :: rest) env))) (fun vs s₁ => Sub G s₁.heap ∧ wpAny (model prog w) A (call (.ref fa) vs) Q E s₁) E s)
    (hk : env.scope.kind = .function := by rfl) (hl : env.kindOf x = some .globalImplicit := by rfl) (hd : (x == ("__debug__" : Str)) = false := by decide) (hg : env.globals = mainGlobals := by rfl)
    (he : starEach (e :: rest) env = (false, eval e env) :: starEach rest env := by rfl) :
    wpAny (model prog w) A (eval (.Call (.Name x p) (e :: rest) [] pos) env) Q E s := by
  obtain ⟨fa', o, fd, h1, h2, h3⟩ := F.st.wd.fnAt hx
  refine wpAny_Call_Name_kw (ldD F hx (fun fa hfa => ?_) hk hl hd hg)
  have e1 : fa' = fa := by rw [h1] at hfa; cases hfa; rfl
  subst e1
  refine Calls.callWith_function (o := o) (fd := fd) ?_
  have := h fa' hfa
  rw [he] at this ⊢
  exact Calls.evalArgs_plain (wpAny_mono this (fun vs s₁ q => ⟨⟨q.1 _ _ h2, h3⟩, q.2⟩) fun _ _ x => x)

/-- a def of the text is entered -/
theorem enterD {d : DefRec} {args : List Value} {binds : List (Str × Value)} {Q : Value → Shared → Prop} {fa : Addr} {k : Nat} (i : Nat) (hi : defs[i]? = some d) (hfa : P.mg d.name = some (.ref fa)) (R : Room A (k + 1)) (S : St P G X s)
    (hbind : ∀ pm code doc, bindArgs (Calls.docDef d.name d.params d.body d.scope pm code doc) ⟨args, []⟩ = pure binds)
    (hloc : ∀ x ∈ binds, d.scope.names.lookup x.1 = some .local)
    (h : ∀ L cd A' s', Room A' k → FS P G L binds.reverse X s' → wpAny (model prog w) A' (execs d.body (envOf d.name d.scope L fa cd)) (fun f s'' => Q (match f with | .ret v => v | _ => .none) s'') nE s')
    (hco : d.scope.isCoroutine = false := by rfl) (hgen : d.scope.isGenerator = false := by rfl) (hk : d.scope.kind = .function := by rfl)
    (hcell : ∀ x ∈ d.scope.names, x.2 ≠ .cell := by decide) :
    wpAny (model prog w) A (call (.ref fa) args) Q E s := by
  obtain ⟨a, o, pm, code, doc, h1, h2, h3, h4⟩ := S.wd.fn d (List.mem_of_getElem? hi)
  have e1 : a = fa := by rw [h1] at hfa; cases hfa; rfl
  subst e1
  refine wpAny_call (codeAny_call_def (fd := Calls.docDef d.name d.params d.body d.scope pm code doc) (body := d.body) (by have := R.depth; omega) (S.keep _ _ h2) h3 (S.wd.nolimit.keeps S.keep) (h4.keeps S.keep) rfl (BindsTo.of_eq (hbind _ _ _)) hcell hloc (fun h₀ hns hk₁ => ?_) hco hgen hk)
  have F : FS P G s.heap.objs.size binds.reverse X { s with heap := h₀, toks := s.toks + binds.length } := by
    refine ⟨⟨S.wd, fun b o e => hk₁ _ _ (S.keep b o e), fun p hp => hk₁ _ _ (S.has p hp), S.sep, S.nd, S.gens, S.os⟩, ⟨_, hns, fun x v e => e⟩, S.fresh (Nat.le_refl _), fun p hp e => ?_⟩
    have := Heap.lt_size (S.has p hp)
    rw [e] at this; exact absurd this (Nat.lt_irrefl _)
  exact wpAny_mono (h _ code _ _ R.deeper F) (fun _ _ x => x) fun _ _ x => x.elim
end
end Mine

namespace Mine

section
variable {prog : Program} {w : World} {A : Around} {E : Value → Shared → Prop} {s : Shared} {P : Par} {G : Heap} {L a : Addr} {ms : List (Str × Value)} {X X' : List (Addr × Obj)} {x : Str} {pos p : Pos} {env : Env} {n : Nat}

theorem whileF {test : Expr} {body : List Stmt} {Q : Flow → Shared → Prop} (I : Nat → Shared → Prop)
    (turn : ∀ n s, I n s → wpAny (model prog w) A (isTrue test env (eval test env)) (fun b s₂ => if b = true then wpAny (model prog w) A (execs body env) (fun f s₃ => match f with
      | .next | .cont => ∃ m, m < n ∧ I m s₃
      | .brk => Q .next s₃
      | .ret v => Q (.ret v) s₃) nE s₂ else Q .next s₂) nE s) (n : Nat) (h : I n s) : wpAny (model prog w) A (exec (.While test body [] pos) env) Q E s := by
  refine wpAny_While (codeAny_whileLoop I (fun n s hI => ?_) n h)
  refine wpAny_mono (turn n s hI) (fun b s₂ q => ?_) fun _ _ x => x.elim
  cases b with
  | true =>
    rw [if_pos rfl] at q ⊢
    exact wpAny_mono q (fun f s₃ r => by cases f <;> exact r) fun _ _ x => x.elim
  | false =>
    rw [if_neg Bool.false_ne_true] at q ⊢
    exact wpAny_execs_nil q

theorem seqF {st : Stmt} {rest : List Stmt} {M : Model} {Q : Flow → Shared → Prop} (Mid : Shared → Prop) (h1 : wpAny M A (exec st env) (fun f s' => f = .next ∧ Mid s') nE s) (h2 : ∀ s', Mid s' → wpAny M A (execs rest env) Q E s') : wpAny M A (execs (st :: rest) env) Q E s :=
  wpAny_execs_cons (wpAny_mono h1 (fun f s' q => by obtain ⟨rfl, q⟩ := q; exact h2 s' q) fun _ _ x => x.elim)

/-- an item of a list -/
theorem subL {value slice : Expr} {its : List Value} {k : Int} {u : Tok} {v : Value} {Q : Value → Shared → Prop} (hl : s.heap.get? a = some (listOf its.toArray n)) (h0 : 0 ≤ k) (hfit : k < 2 ^ 63) (hx : its[k.toNat]? = some v) (h : Q v s)
    (hs : subscripted slice false (.ref a) (.int k u) = operate [.ref a, .int k u] (getItem (.ref a) (.int k u)) := by with_unfolding_all rfl) :
    wpAny (model prog w) A (subscriptTail value slice (.ref a) (.int k u)) Q E s :=
  have hL : s.heap.IsList a its.toArray := PySem.IsL.isList (n := n) hl
  tail_any hL.typeIs slot_list_getitem.lookup (wpAny_getItem_list hL h0 hfit (by simpa using hx) h) hs

theorem at_mem {its : List Value} {j : Nat} (h : j < its.length) : at' its j ∈ its := by simp [at', List.getD, h]
theorem at_get {its : List Value} {j : Nat} (h : j < its.length) : its[j]? = some (at' its j) := by simp [at', List.getD, h]
theorem subN {value slice : Expr} {its : List Value} {j : Nat} {u : Tok} {Q : Value → Shared → Prop} (hl : s.heap.get? a = some (listOf its.toArray n)) (hj : j < its.length) (hb : its.length ≤ 1000000) (h : Q (at' its j) s)
    (hs : subscripted slice false (.ref a) (.int (j : Int) u) = operate [.ref a, .int (j : Int) u] (getItem (.ref a) (.int (j : Int) u)) := by with_unfolding_all rfl) :
    wpAny (model prog w) A (subscriptTail value slice (.ref a) (.int (j : Int) u)) Q E s := subL hl (by omega) (by omega) (by rw [Int.toNat_natCast]; exact at_get hj) h hs

theorem constI {i : Int} {k : Nat} {Q : Value → Shared → Prop} (h : ∀ u t, Q (.int i u) { s with toks := t }) : wpAny (model prog w) A (eval (.Constant (.int i) k pos) env) Q E s := wpAny_Constant_int (h _ _)
theorem addI {x y : Int} {t u : Tok} {Q : Value → Shared → Prop} (h : ∀ u t, Q (.int (x + y) u) { s with toks := t }) : wpAny (model prog w) A (binaryOp .Add (.int x t) (.int y u)) Q E s := add_int (h _ _)
theorem subI {x y : Int} {t u : Tok} {Q : Value → Shared → Prop} (h : ∀ u t, Q (.int (x - y) u) { s with toks := t }) : wpAny (model prog w) A (binaryOp .Sub (.int x t) (.int y u)) Q E s := sub_int (h _ _)
theorem mulI {x y : Int} {t u : Tok} {Q : Value → Shared → Prop} (h : ∀ u t, Q (.int (x * y) u) { s with toks := t }) (hz : IntMulOk x y := by mul_fits) : wpAny (model prog w) A (binaryOp .Mult (.int x t) (.int y u)) Q E s := mul_int (h _ _) hz
theorem rshI {x : Int} {t u : Tok} {Q : Value → Shared → Prop} (h0 : 0 ≤ x) (h : ∀ u t, Q (.int (x / 2) u) { s with toks := t }) : wpAny (model prog w) A (binaryOp .RShift (.int x t) (.int 1 u)) Q E s := wpAny_rshift1_int h0 (h _ _)

/-- a store into a list of the ledger -/
theorem setF {its : List Value} {k : Int} {u : Tok} {v : Value} {Q : Unit → Shared → Prop} (F : FS P G L ms X s) (U : Up a (listOf its.toArray n) (listOf (its.set k.toNat v).toArray n) X X') (h0 : 0 ≤ k) (hfit : k < 2 ^ 63) (hn : k < its.length)
    (h : ∀ s', FS P G L ms X' s' → Q () s') : wpAny (model prog w) A (setItem (.ref a) (.int k u) v) Q E s := by
  have hl := F.st.has _ U.mem
  refine ki_setAt (n := n) (items := its.toArray) hl h0 hfit (by simpa using hn) (h _ (F.upd (t := s.toks) U (Heap.SameBut.update ..) ?_))
  have e : Obj.mapSeq (·.setIfInBounds k.toNat v) (listOf its.toArray n) = listOf (its.set k.toNat v).toArray n := by
    show Obj.mk _ _ _ _ = Obj.mk _ _ _ _
    simp
  rw [Heap.get?_update_self _ hl (by rw [e]; rfl), e]
end


section
variable {prog : Program} {w : World} {A : Around} {E : Value → Shared → Prop} {s : Shared} {P : Par} {G : Heap} {L a : Addr} {ms : List (Str × Value)} {X X' : List (Addr × Obj)} {x : Str} {pos p : Pos} {n : Nat} {env : Env}

theorem bi_len : bootBuiltins "len" = some (.builtin "len") := by boot_by_name
theorem bi_abs : bootBuiltins "abs" = some (.builtin "abs") := by boot_by_name
theorem bi_divmod : bootBuiltins "divmod" = some (.builtin "divmod") := by boot_by_name
theorem bi_sorted : bootBuiltins "sorted" = some (.builtin "sorted") := by boot_by_name
theorem bi_range : bootBuiltins "range" = some (.type "range") := by boot_by_name
theorem bi_reversed : bootBuiltins "reversed" = some (.type "reversed") := by boot_by_name
theorem bi_int : bootBuiltins "int" = some (.type "int") := by boot_by_name
theorem bi_bytes : bootBuiltins "bytes" = some (.type "bytes") := by boot_by_name

/-- a call of a built-in function -/
theorem callB {id : String} {e : Expr} {rest : List Expr} {Q : Value → Shared → Prop} (F : FS P G L ms X s) (hv : bootBuiltins x = some (.builtin id)) (hx : x ∈ biNames)
    (h : wpAny (model prog w) A (spliced (backTo pos (starEach (e :: rest) env))) (fun vs s₁ => wpAny (model prog w) A (call (.builtin id) vs) Q E s₁) E s)
    (hk : env.scope.kind = .function := by rfl) (hl : env.kindOf x = some .globalImplicit := by rfl) (hd : (x == ("__debug__" : Str)) = false := by decide)
    (he : starEach (e :: rest) env = (false, eval e env) :: starEach rest env := by rfl)
    (hplain : (backTo pos (starEach rest env)).any (·.1) = false := by rfl) (hg : env.globals = mainGlobals := by rfl) (hb : env.builtins = builtinsNs := by rfl) :
    wpAny (model prog w) A (eval (.Call (.Name x p) (e :: rest) [] pos) env) Q E s :=
  wpAny_Call_Name_kw (ldB F hx hv (PyProof.Rows.callWith_builtin1 h he hplain) hk hl hd hg hb)
theorem callT {id : String} {e : Expr} {rest : List Expr} {Q : Value → Shared → Prop} (F : FS P G L ms X s) (hv : bootBuiltins x = some (.type id)) (hx : x ∈ biNames)
    (h : wpAny (model prog w) A (spliced (backTo pos (starEach (e :: rest) env))) (fun vs s₁ => wpAny (model prog w) A (call (.type id) vs) Q E s₁) E s)
    (hk : env.scope.kind = .function := by rfl) (hl : env.kindOf x = some .globalImplicit := by rfl) (hd : (x == ("__debug__" : Str)) = false := by decide)
    (he : starEach (e :: rest) env = (false, eval e env) :: starEach rest env := by rfl)
    (hplain : (backTo pos (starEach rest env)).any (·.1) = false := by rfl) (hg : env.globals = mainGlobals := by rfl) (hb : env.builtins = builtinsNs := by rfl) :
    wpAny (model prog w) A (eval (.Call (.Name x p) (e :: rest) [] pos) env) Q E s :=
  wpAny_Call_Name_kw (ldB F hx hv (PyProof.Rows.callWith_type1 h he hplain) hk hl hd hg hb)

theorem lenL {its : List Value} {Q : Value → Shared → Prop} (hl : s.heap.get? a = some (listOf its.toArray n)) (hb : its.length ≤ 1000000) (h : ∀ u t, Q (.int (its.length : Int) u) { s with toks := t }) : wpAny (model prog w) A (call (.builtin "len") [.ref a]) Q E s :=
  Calls.call_len_list (items := its.toArray) (PySem.IsL.isList (n := n) hl) (by simp; omega) (by simpa using h _ _)

theorem exprN {e : Expr} {M : Model} {Q : Flow → Shared → Prop} (h : wpAny M A (eval e env) (fun v s' => v = .none ∧ Q .next s') E s)
    (hi : interactive env = false := by rfl) (hs : swapsWith e none pos.line env = pure false := by rfl) : wpAny M A (exec (.Expr e pos) env) Q E s :=
  wpAny_Expr (wpAny_mono h (fun v s' q => by obtain ⟨rfl, q⟩ := q; exact q) fun _ _ x => x) hi hs
end
end Mine

namespace Mine
local macro_rules | `(tactic| walk_at "up") => `(tactic| first | exact Up.head | exact Up.tail Up.head | exact Up.tail (Up.tail Up.head) | exact Up.tail (Up.tail (Up.tail Up.head)))

section
variable {prog : Program} {w : World} {A : Around} {E : Value → Shared → Prop} {s : Shared} {P : Par} {G : Heap} {L a f : Addr} {ms : List (Str × Value)} {X X' : List (Addr × Obj)} {x : Str} {pos p apos : Pos} {n : Nat} {env : Env} {its : List Value}

theorem methL {nm : Str} {id : String} {its : Array Value} {pl : Sem Bool} {Q : Value × List Value → Shared → Prop} (hl : s.heap.get? a = some (listOf its n)) (slot : Slot "list" nm id) (hty : typeOf (.builtin id) = pure (.type "method_descriptor")) (h : Q (.builtin id, [.ref a]) s) :
    wpAny (model prog w) A (getMethod (.ref a) nm pl) Q E s :=
  listMethod_K (h₀ := ⟨#[], {}⟩) (L := a + 1) (news := [(a, listOf its n)]) (fun q hq => by
    rcases List.mem_cons.mp hq with h | h
    · subst h; exact ⟨hl, Nat.ne_of_lt (Nat.lt_succ_self _), rfl⟩
    · cases h) (.head _) slot hty h

theorem upd_seq {f : Array Value → Array Value} {its its' : List Value} {n' : Nat} (F : FS P G L ms X s) (U : Up a (listOf its.toArray n) (listOf its'.toArray n') X X') (e : f its.toArray = its'.toArray) (en : n' = if its'.length == its.length then n else n + 1) :
    FS P G L ms X' { s with heap := s.heap.update a (Obj.mapSeq f) } := by
  have hl := F.st.has _ U.mem
  refine F.upd (t := s.toks) U (Heap.SameBut.update ..) ?_
  have := PySem.IsL.update hl f
  rw [e, List.size_toArray, List.size_toArray, ← en] at this
  exact this

/-- x.append(e) -/
theorem appF {e : Expr} {pl : Sem Bool} {Q : Value → Shared → Prop} (F : FS P G L ms X s) (hx : ms.lookup x = some (.ref a)) (hm : s.heap.get? a = some (listOf its.toArray n))
    (h : wpAny (model prog w) A (eval e env) (fun v s₂ => ∃ G₂ ms₂ X₂ X₃ its₂ n₂, FS P G₂ L ms₂ X₂ s₂ ∧ Up a (listOf (List.toArray its₂) n₂) (listOf (its₂ ++ [v]).toArray (n₂ + 1)) X₂ X₃ ∧ its₂.length ≤ 1000000 ∧ ∀ s₃, FS P G₂ L ms₂ X₃ s₃ → Q .none s₃) E s)
    (he : eval (.Call (.Attribute (.Name x p) "append" apos) [e] [] pos) env = (do
      let ov ← eval (.Name x p) env
      standAt apos.atName
      let (f', first) ← holding [ov] (getMethod ov "append" pl)
      callWith pos f' first (backTo pos (starEach [e] env)) []) := by rfl)
    (ht : backTo pos (starEach [e] env) = [(false, eval e env)] := by rfl)
    (hk : env.scope.kind = .function := by rfl) (hl : env.kindOf x = some .local := by rfl) (hd : (x == ("__debug__" : Str)) = false := by decide) (hL : env.locals = L := by rfl) :
    wpAny (model prog w) A (eval (.Call (.Attribute (.Name x p) "append" apos) [e] [] pos) env) Q E s := by
  refine MethodCall_ (ldF F hx (methL hm PySem.F.slot_list_append PySem.F.type_list_append ?_) hk hl hd hL) he
  dsimp only
  rw [ht]
  refine PySem.P.append_list (wpAny_mono h (fun v s₂ q => ?_) fun _ _ x => x)
  obtain ⟨G₂, ms₂, X₂, X₃, its₂, n₂, F₂, U, hz, k⟩ := q
  refine ⟨its₂.toArray, n₂, by rw [sizeLine_eq]; simp; omega, F₂.st.has _ U.mem, k _ ?_⟩
  exact upd_seq F₂ U (by simp) (by simp)

/-- x.pop() -/
theorem popF {pl : Sem Bool} {y : Value} {Q : Value → Shared → Prop} (F : FS P G L ms X s) (hx : ms.lookup x = some (.ref a)) (U : Up a (listOf (its ++ [y]).toArray n) (listOf its.toArray (n + 1)) X X') (hz : its.length ≤ 1000000)
    (h : ∀ s', FS P G L ms X' s' → Q y s')
    (he : eval (.Call (.Attribute (.Name x p) "pop" apos) [] [] pos) env = (do
      let ov ← eval (.Name x p) env
      standAt apos.atName
      let (f', first) ← holding [ov] (getMethod ov "pop" pl)
      callWith pos f' first (backTo pos (starEach [] env)) []) := by rfl)
    (hk : env.scope.kind = .function := by rfl) (hl : env.kindOf x = some .local := by rfl) (hd : (x == ("__debug__" : Str)) = false := by decide) (hL : env.locals = L := by rfl) :
    wpAny (model prog w) A (eval (.Call (.Attribute (.Name x p) "pop" apos) [] [] pos) env) Q E s := by
  have hm := F.st.has _ U.mem
  refine MethodCall_ (ldF F hx (methL hm PySem.F.slot_list_pop PySem.F.type_list_pop ?_) hk hl hd hL) he
  dsimp only
  show wpAny _ _ (callWith pos (.builtin "list.pop") [.ref a] [] []) _ _ _
  refine PySem.P.pop_list hm (by simp) (h _ (upd_seq F U ?_ (by simp))) (by rw [sizeLine_eq]; simp; omega)
  have e : (its ++ [y]).eraseIdx its.length = its := by
    rw [List.eraseIdx_append_of_length_le (Nat.le_refl _)]; simp
  simp [Array.eraseIdxIfInBounds, e]

/-- x.reverse() -/
theorem revF {pl : Sem Bool} {Q : Value → Shared → Prop} (F : FS P G L ms X s) (hx : ms.lookup x = some (.ref a)) (U : Up a (listOf its.toArray n) (listOf its.reverse.toArray n) X X') (hz : its.length ≤ 1000000)
    (h : ∀ s', FS P G L ms X' s' → Q .none s')
    (he : eval (.Call (.Attribute (.Name x p) "reverse" apos) [] [] pos) env = (do
      let ov ← eval (.Name x p) env
      standAt apos.atName
      let (f', first) ← holding [ov] (getMethod ov "reverse" pl)
      callWith pos f' first (backTo pos (starEach [] env)) []) := by rfl)
    (hk : env.scope.kind = .function := by rfl) (hl : env.kindOf x = some .local := by rfl) (hd : (x == ("__debug__" : Str)) = false := by decide) (hL : env.locals = L := by rfl) :
    wpAny (model prog w) A (eval (.Call (.Attribute (.Name x p) "reverse" apos) [] [] pos) env) Q E s := by
  have hm := F.st.has _ U.mem
  refine MethodCall_ (ldF F hx (methL hm PySem.F.slot_list_reverse PySem.F.type_list_reverse ?_) hk hl hd hL) he
  dsimp only
  show wpAny _ _ (callWith pos (.builtin "list.reverse") [.ref a] [] []) _ _ _
  exact PySem.P.reverse_list hm (h _ (upd_seq F U (by simp) (by simp))) (by rw [sizeLine_eq]; simp; omega)

theorem truthL {Q : Bool → Shared → Prop} (hl : s.heap.get? a = some (listOf its.toArray n)) (hb : its.length ≤ 1000000) (h : ∀ t, Q (!its.isEmpty) { s with toks := t }) : wpAny (model prog w) A (truthy (.ref a)) Q E s :=
  wpAny_truthy_list (items := its.toArray) (PySem.IsL.isList (n := n) hl) (by simp; omega) (by simpa using h _)
end
end Mine

namespace Mine

section
variable {prog : Program} {w : World} {A : Around} {E : Value → Shared → Prop} {s : Shared} {P : Par} {G : Heap} {L a f I : Addr} {ms : List (Str × Value)} {X X' : List (Addr × Obj)} {x : Str} {pos p apos : Pos} {n : Nat} {env : Env} {its : List Value}

structure Iter (prog : Program) (w : World) (G : Heap) (A : Around) (I : Addr) (n : Nat) (It : Nat → Obj → Prop) (Val : Nat → Value → Prop) : Prop where
  next : ∀ i o (s : Shared) (Q : Option Value → Shared → Prop) E, i < n → It i o → Sub G s.heap → s.heap.get? I = some o →
    (∀ h' t v o', Val i v → It (i + 1) o' → h'.get? I = some o' → Heap.SameBut I s.heap h' → Q (some v) { s with heap := h', toks := t }) → wpAny (model prog w) A (pyNext (.ref I)) Q E s
  stop : ∀ o (s : Shared) (Q : Option Value → Shared → Prop) E, It n o → Sub G s.heap → s.heap.get? I = some o → (∀ h', Heap.ExtBut I s.heap h' → Q none { s with heap := h' }) → wpAny (model prog w) A (pyNext (.ref I)) Q E s

theorem FS.ext {o : Obj} {h' : Heap} (F : FS P G L ms ((I, o) :: X) s) (k : Heap.ExtBut I s.heap h') : FS P G L ms X { s with heap := h' } where
  st := {
    wd := F.st.wd
    keep := fun b o' e => k b o' (fun q => by have := F.st.sep _ (.head _); rw [← q, e] at this; cases this) (F.st.keep b o' e)
    has := fun q hq => k _ _ (fun e => by
      have := F.st.nd
      simp only [List.map_cons, List.nodup_cons] at this
      exact this.1 (e ▸ List.mem_map_of_mem hq)) (F.st.has q (.tail _ hq))
    sep := fun q hq => F.st.sep q (.tail _ hq)
    nd := F.drop.st.nd
    gens := F.st.gens
    os := F.st.os }
  ns := let ⟨m, ⟨o', es, ep, ho, r⟩, h2⟩ := F.ns; ⟨m, ⟨o', es, ep, k _ _ (fun e => F.ne _ (.head _) e.symm) ho, r⟩, h2⟩
  lo := F.lo
  ne := fun q hq => F.ne q (.tail _ hq)

theorem forLoopF {target : Expr} {body : List Stmt} {Q : Flow → Shared → Prop} {Err : Value → Shared → Prop} {o : Obj} {It : Nat → Obj → Prop} {Val : Nat → Value → Prop} (T : Iter prog w G A I n It Val) (hI : It 0 o) (F : FS P G L ms ((I, o) :: X) s)
    (J : Nat → Heap → List (Str × Value) → List (Addr × Obj) → Prop) (h0 : J 0 G ms X)
    (hgo : ∀ (s : Shared) o v (Q : Unit → Shared → Prop) E i, It i o → s.heap.get? I = some o → Q () s → wpAny (model prog w) A (letOwnedTupleGo target (.ref I) v) Q E s)
    (step : ∀ i v G' ms' X' s' o', i < n → Val i v → Sub G G' → J i G' ms' X' → It (i + 1) o' → FS P G' L ms' ((I, o') :: X') s' →
      wpAny (model prog w) A (assign target env v) (fun _ s₂ => wpAny (model prog w) A (execs body env) (fun f s₃ => match f with
        | .next | .cont => ∃ G'' ms'' X'', Sub G' G'' ∧ J (i + 1) G'' ms'' X'' ∧ FS P G'' L ms'' ((I, o') :: X'') s₃
        | .brk => Q .next s₃
        | .ret v => Q (.ret v) s₃) nE s₂) nE s')
    (done : ∀ G' ms' X' s', Sub G G' → J n G' ms' X' → FS P G' L ms' X' s' → Q .next s') :
    codeAny (model prog w) A (.forLoop target (.ref I) body [] env) (fun r s' => match r with | .ok f => Q f s' | .error e => Err e s') s := by
  refine codeAny_forLoop_any (fun m s' => ∃ i G' ms' X' o', m = n - i ∧ i ≤ n ∧ Sub G G' ∧ J i G' ms' X' ∧ It i o' ∧ FS P G' L ms' ((I, o') :: X') s') ?_ n ⟨0, G, ms, X, o, rfl, Nat.zero_le _, fun _ _ e => e, h0, hI, F⟩
  rintro m s' ⟨i, G', ms', X', o', rfl, hi, hG, hJ, hIt, F'⟩
  have K : Sub G s'.heap := fun b o e => F'.st.keep b o (hG b o e)
  by_cases hlt : i < n
  · refine T.next i o' s' _ _ hlt hIt K (F'.st.has _ (.head _)) fun h' t v o₂ hv hIt' ho₂ hs => ?_
    have F₂ : FS P G' L ms' ((I, o₂) :: X') { s' with heap := h', toks := t } := F'.upd .head hs ho₂
    refine hgo _ o₂ v _ _ (i + 1) hIt' ho₂ ?_
    refine wpAny_mono (step i v G' ms' X' _ o₂ hlt hv hG hJ hIt' F₂) (fun _ s₂ q => ?_) fun _ _ x => x.elim
    refine wpAny_mono q (fun fl s₃ r => ?_) fun _ _ x => x.elim
    cases fl with
    | next => obtain ⟨G'', ms'', X'', a1, a2, a3⟩ := r; exact ⟨n - (i + 1), by omega, i + 1, G'', ms'', X'', o₂, rfl, by omega, fun b o e => a1 b o (hG b o e), a2, hIt', a3⟩
    | cont => obtain ⟨G'', ms'', X'', a1, a2, a3⟩ := r; exact ⟨n - (i + 1), by omega, i + 1, G'', ms'', X'', o₂, rfl, by omega, fun b o e => a1 b o (hG b o e), a2, hIt', a3⟩
    | brk => exact r
    | ret v => exact r
  · have e : i = n := by omega
    subst e
    refine T.stop o' s' _ _ hIt K (F'.st.has _ (.head _)) fun h' k => ?_
    exact wpAny_execs_nil (done G' ms' X' _ hG hJ (F'.ext k))

/-- over a name -/
theorem forNameF {body : List Stmt} {Q : Flow → Shared → Prop} {Err : Value → Shared → Prop} {o : Obj} {It : Nat → Obj → Prop} {Val : Nat → Value → Prop} (T : Iter prog w G A I n It Val) (hI : It 0 o) (F : FS P G L ms ((I, o) :: X) s)
    (J : Nat → Heap → List (Str × Value) → List (Addr × Obj) → Prop) (h0 : J 0 G ms X)
    (step : ∀ i v G' ms' X' s' o', i < n → Val i v → Sub G G' → J i G' ms' X' → It (i + 1) o' → FS P G' L ((x, v) :: ms') ((I, o') :: X') s' →
      wpAny (model prog w) A (execs body env) (fun f s₃ => match f with
        | .next | .cont => ∃ G'' ms'' X'', Sub G' G'' ∧ J (i + 1) G'' ms'' X'' ∧ FS P G'' L ms'' ((I, o') :: X'') s₃
        | .brk => Q .next s₃
        | .ret v => Q (.ret v) s₃) nE s')
    (done : ∀ G' ms' X' s', Sub G G' → J n G' ms' X' → FS P G' L ms' X' s' → Q .next s')
    (hk : env.scope.kind = .function := by rfl) (hl : env.kindOf x = some .local := by rfl) (hL : env.locals = L := by rfl) :
    codeAny (model prog w) A (.forLoop (.Name x p) (.ref I) body [] env) (fun r s' => match r with | .ok f => Q f s' | .error e => Err e s') s :=
  forLoopF T hI F J h0 (fun s o v Q E i _ h q => (show wpAny _ _ (pure ()) _ _ _ from wpAny_pure q))
    (fun i v G' ms' X' s' o' hi hv hG hJ hIt F' => wpAny_assign_Name (stF F' (fun s₂ F₂ => step i v G' ms' X' s₂ o' hi hv hG hJ hIt F₂) hk hl hL)) done

/-- the iterator of a range -/
abbrev rit (x left step : Int) : Obj := { cls := .type "range_iterator", dict := none, data := .fields #[rawInt x, rawInt left, rawInt step], slots := #[] }
theorem iter_range {x0 c : Int} (hh : A.handled = none) : Iter prog w G A I n (fun i o => o = rit (x0 + i * c) ((n : Int) - i) c) (fun i v => ∃ t, v = .int (x0 + i * c) t) where
  next := fun i o s Q E hi hI _ ho k => by
    subst hI
    refine wpAny_pyNext_range_item ho (by omega) fun h' hit hs => k h' _ _ _ ⟨_, rfl⟩ ?_ hit hs
    show rit _ _ _ = rit _ _ _
    have e1 : x0 + (i : Int) * c + c = x0 + ((i + 1 : Nat) : Int) * c := by rw [Int.natCast_add, Int.add_mul]; simp [Int.add_assoc]
    have e2 : (n : Int) - i - 1 = (n : Int) - ((i + 1 : Nat) : Int) := by omega
    rw [e1, e2]
  stop := fun o s Q E hI _ ho k => by
    subst hI
    exact wpAny_pyNext_range_end hh ho (by omega) k

/-- the iterator of a kept list -/
theorem iter_list {l : Addr} {ln : Nat} (hh : A.handled = none) (hl : G.get? l = some (listOf its.toArray ln)) :
    Iter prog w G A I its.length (fun i o => o.cls = .type "list_iterator" ∧ o.data = .fields #[.ref l, .int i 0]) (fun i v => its[i]? = some v) where
  next := fun i o s Q E hi hI K ho k => by
    have hL : s.heap.IsList l its.toArray := PySem.IsL.isList (n := ln) (K _ _ hl)
    have hx : its[i]? = some its[i] := List.getElem?_eq_getElem hi
    refine wpAny_pyNext_list_item (x := its[i]) ⟨o, ho, hI.1, hI.2⟩ hL (by simp [hi]) fun h' hit hs => ?_
    obtain ⟨o', ho', hc, hd⟩ := hit
    exact k h' s.toks _ o' hx ⟨hc, hd⟩ ho' hs
  stop := fun o s Q E hI K ho k => by
    have hL : s.heap.IsList l its.toArray := PySem.IsL.isList (n := ln) (K _ _ hl)
    exact wpAny_pyNext_list_end hh ⟨o, ho, hI.1, hI.2⟩ hL (by simp) k

/-- «for x in l», l a kept list -/
theorem forListF {l : Addr} {ln : Nat} {iter : Expr} {body : List Stmt} {Q : Flow → Shared → Prop} (hh : A.handled = none)
    (hiter : wpAny (model prog w) A (eval iter env) (fun v s₁ => ∃ G₁ ms₁ X₁, v = .ref l ∧ G₁.get? l = some (listOf its.toArray ln) ∧ FS P G₁ L ms₁ X₁ s₁ ∧
      ∃ J : Nat → Heap → List (Str × Value) → List (Addr × Obj) → Prop, J 0 G₁ ms₁ X₁ ∧
      (∀ i v G' ms' X' s' I o', its[i]? = some v → Sub G₁ G' → J i G' ms' X' → FS P G' L ((x, v) :: ms') ((I, o') :: X') s' →
        wpAny (model prog w) A (execs body env) (fun f s₃ => match f with
          | .next | .cont => ∃ G'' ms'' X'', Sub G' G'' ∧ J (i + 1) G'' ms'' X'' ∧ FS P G'' L ms'' ((I, o') :: X'') s₃
          | .brk => Q .next s₃
          | .ret v => Q (.ret v) s₃) nE s') ∧
      (∀ G' ms' X' s', Sub G₁ G' → J its.length G' ms' X' → FS P G' L ms' X' s' → Q .next s')) nE s)
    (hk : env.scope.kind = .function := by rfl) (hl : env.kindOf x = some .local := by rfl) (hL : env.locals = L := by rfl) (hs : ∀ v, foldedSetIterable iter env v = pure v := by intro _; rfl) :
    wpAny (model prog w) A (exec (.For (.Name x p) iter body [] pos) env) Q E s := by
  refine wpAny_For (wpAny_mono hiter (fun v s₁ q => ?_) fun _ _ x => x.elim) hs
  obtain ⟨G₁, ms₁, X₁, rfl, hg, F₁, J, j0, step, done⟩ := q
  refine wpAny_pyIter_list (PySem.IsL.isList (n := ln) (F₁.st.keep _ _ hg)) ?_
  exact forNameF (iter_list hh hg) ⟨rfl, rfl⟩ (F₁.alloc _) J j0 (fun i v G' ms' X' s' o' _ hv hG hJ _ F' => step i v G' ms' X' s' _ o' hv hG hJ F') done hk hl hL
end

section
variable {prog : Program} {w : World} {A : Around} {E : Value → Shared → Prop} {s : Shared}
open PySem.Calls
theorem call_range_reversed {r : Addr} {b : Int} {t u v : Tok} {Q : Value → Shared → Prop} (hr : IsRange s.heap r 0 b 1 t u v) (hb : 0 ≤ b) (hb2 : b < 2 ^ 62)
    (h : Q (.ref s.heap.objs.size) { s with heap := s.heap.push (rit (b - 1) b (-1)) }) : wpAny (model prog w) A (call (.builtin "range.__reversed__") [.ref r]) Q E s := by
  have hT : s.TypeIs (.ref r) "range" := ⟨_, hr, rfl⟩
  refine wpAny_call_entry PySem.F.slot_range_reversed hT PySem.F.entry_range_reversed ?_ (PySem.F.args_range_reversed_1 _)
  unfold Builtin.«range.__reversed__»
  refine wpAny_bind (wpAny_of_eq (a := Value.ref r) rfl ?_)
  have hn : Builtin.Range.rangeSize 0 b 1 = b := by
    unfold Builtin.Range.rangeSize
    by_cases q : (0 : Int) < b
    · simp [q]
    · have : b = 0 := by omega
      subst this; simp
  refine wpAny_bind (m := Builtin.Range.rangeFields (.ref r)) (Q := _) ?_
  unfold Builtin.Range.rangeFields
  refine wpAny_bind (m := field (.ref r) 0) (wpAny_field hr rfl (x := .int 0 t) rfl ?_)
  refine wpAny_bind (wpAny_of_eq (a := some 0) rfl ?_)
  refine wpAny_bind (m := field (.ref r) 1) (wpAny_field hr rfl (x := .int b u) rfl ?_)
  refine wpAny_bind (wpAny_of_eq (a := some b) rfl ?_)
  refine wpAny_bind (m := field (.ref r) 2) (wpAny_field hr rfl (x := .int 1 v) rfl ?_)
  refine wpAny_bind (wpAny_of_eq (a := some 1) rfl ?_)
  refine wpAny_pure ?_
  try dsimp only
  rw [hn]
  have hs : (Builtin.Range.rangeFitsLong 0 && Builtin.Range.rangeFitsLong b && Builtin.Range.rangeFitsLong 1 && Builtin.Range.rangeFitsLong (-1) && Builtin.Range.rangeFitsLong (0 - 1) && Builtin.Range.rangeFitsLong b) = true := by
    have : Builtin.Range.rangeFitsLong b = true := by unfold Builtin.Range.rangeFitsLong; simp only [Bool.and_eq_true, decide_eq_true_eq]; omega
    rw [this]; decide
  rw [hs]
  simp only [Bool.not_true, Bool.false_eq_true, if_false, if_true]
  have e1 : (0 : Int) + (b - 1) * 1 = b - 1 := by omega
  rw [e1]
  exact wpAny_bind (wpAny_newObj_type (wpAny_pure ⟨_, rfl, h⟩))

theorem sub_ri_reversed : isSubtype (.type "range_iterator") (.type "reversed") = pure false := by rw [isSubtype_type]; kernel_rfl

theorem code_reversed_range {r : Addr} {b : Int} {t u v : Tok} {Q₁ : Value → Shared → Prop} (hr : IsRange s.heap r 0 b 1 t u v) (hb : 0 ≤ b) (hb2 : b < 2 ^ 62)
    (h : Q₁ (.ref s.heap.objs.size) { s with heap := s.heap.push (rit (b - 1) b (-1)) }) :
    codeAny (model prog w) A (.call (.builtin "reversed.__new__") ⟨[.type "reversed", .ref r], []⟩) (wants Q₁ E) s := by
  have hT : s.TypeIs (.ref r) "range" := ⟨_, hr, rfl⟩
  refine codeAny_of_tree ?_
  show wpAny _ A.in1 (do checkBuiltinCall "reversed.__new__" ⟨[.type "reversed", .ref r], []⟩; again (.builtin "reversed.__new__" ⟨[.type "reversed", .ref r], []⟩)) _ _ s
  refine wpAny_bind (wpAny_of_eq (PySem.F.newCall_reversed_1 _) (wpAny_pure ⟨plainId_quiet PySem.F.plain_reversed_new _, codeAny_builtin PySem.F.entry_reversed_new ?_⟩))
  rw [Around.under_plainId PySem.F.plain_reversed_new _]
  unfold Builtin.«reversed.__new__»
  refine wpAny_bind (wpAny_of_eq (newClass_reversed _) ?_)
  try dsimp only
  refine wpAny_bind (wpAny_of_eq (a := ()) (by first | rfl | kernel_rfl) ?_)
  refine wpAny_bind (wpAny_of_eq (a := ()) (by first | rfl | kernel_rfl) ?_)
  try dsimp only
  refine wpAny_bind (wpAny_specialOf hT PySem.F.slot_range_reversed.lookup ?_)
  try dsimp only
  refine wpAny_bind (wpAny_of_eq (PySem.F.slot_range_reversed.bind _) ?_)
  try dsimp only
  first
  | rw [if_neg (show ¬ ((Value.builtin "range.__reversed__" == Value.none) = true) from Bool.false_ne_true)]
  | (show wpAny _ _ (if (Value.builtin "range.__reversed__" == Value.none) = true then _ else _) _ _ _; rw [if_neg (show ¬ ((Value.builtin "range.__reversed__" == Value.none) = true) from Bool.false_ne_true)])
  refine wpAny_bind (wpAny_rule ?_)
  refine wpAny_bind (m := runValue (.call (.builtin "range.__reversed__") ⟨[.ref r], []⟩)) (show wpAny _ _ (call (.builtin "range.__reversed__") [.ref r]) _ _ _ from call_range_reversed hr hb hb2 ?_)
  first
  | exact wpAny_pure h
  | exact wpAny_bind (wpAny_pure (wpAny_pure h))

theorem call_reversed_range {r : Addr} {b : Int} {t u v : Tok} {Q : Value → Shared → Prop} (hr : IsRange s.heap r 0 b 1 t u v) (hb : 0 ≤ b) (hb2 : b < 2 ^ 62)
    (h : Q (.ref s.heap.objs.size) { s with heap := s.heap.push (rit (b - 1) b (-1)) }) : wpAny (model prog w) A (call (.type "reversed") [.ref r]) Q E s := by
  refine callType_other (U := "range_iterator") (Q₁ := fun obj s₁ => obj = .ref s.heap.objs.size ∧ s₁ = { s with heap := s.heap.push (rit (b - 1) b (-1)) }) (by decide +kernel) PySem.F.create_reversed ⟨_, _, PySem.F.mro_reversed⟩ PySem.F.made_reversed sub_ri_reversed (PySem.F.typeCall_reversed_1 _) (code_reversed_range hr hb hb2 ⟨rfl, rfl⟩) ?_
  rintro obj s₁ ⟨rfl, rfl⟩
  exact ⟨⟨_, Heap.get?_push_size _ rfl, rfl⟩, h⟩
end

section
variable {prog : Program} {w : World} {A : Around} {E : Value → Shared → Prop} {s : Shared}
theorem fdivI {x y : Int} {t u : Tok} {Q : Value → Shared → Prop} (hy : 0 < y ∧ y < 1073741824) (h : ∀ u t, Q (.int (x / y) u) { s with toks := t }) : wpAny (model prog w) A (binaryOp .FloorDiv (.int x t) (.int y u)) Q E s :=
  floordiv_int (by omega) (by rw [Int.fdiv_eq_ediv_of_nonneg _ (by omega)]; exact h _ _) (.inl (PyProof.noPylong_small (by omega)))
theorem fmodI {x y : Int} {t u : Tok} {Q : Value → Shared → Prop} (hy : 0 < y) (h : ∀ u t, Q (.int (x % y) u) { s with toks := t }) : wpAny (model prog w) A (binaryOp .Mod (.int x t) (.int y u)) Q E s :=
  mod_int' (by omega) (by rw [Int.fmod_eq_emod_of_nonneg _ (by omega)]; exact h _ _)

abbrev rangeObj (x : Int) (t u v : Tok) : Obj := { cls := .type "range", data := .fields #[.int 0 u, .int x t, .int 1 v] }
theorem rangeN {x : Int} {t : Tok} {Q : Value → Shared → Prop} (h : ∀ u v t', Q (.ref s.heap.objs.size) { s with heap := s.heap.push (rangeObj x t u v), toks := t' }) :
    wpAny (model prog w) A (call (.type "range") [.int x t]) Q E s := call_range_1 (h _ _ _)
end
end Mine

namespace Mine
open PySem.MeetsSeq PySem.MeetsSeq3
open AutoSeq1 (wpAny_loadPart')

/-- by which of two like-long rows the first comes ahead -/
noncomputable def lexB (e c : Nat → Bool) : List Nat → Bool
  | [] => false
  | j :: r => if e j then lexB e c r else c j

noncomputable def LtGives (y x : Value) (b : Bool) : Prop :=
  ∀ (prog : Program) (w : World) (A : Around) (E : Value → Shared → Prop) (s : Shared) (Q : Value → Shared → Prop), Q (.bool b) s → wpAny (model prog w) A (richCompare .Lt y x) Q E s
theorem LtGives.int (a b : Int) (t u : Tok) : LtGives (.int a t) (.int b u) (decide (a < b)) := fun _ _ _ _ _ _ h => lt_int h

theorem lt_loop (l b : Addr) (items items2 : Array Value) (n n2 : Nat) (hsz : items.size = items2.size) (e c : Nat → Bool)
    (he : ∀ j (h1 : j < items.size) (h2 : j < items2.size), EqGives items[j] items2[j] (e j)) (hc : ∀ j (h1 : j < items.size) (h2 : j < items2.size), LtGives items[j] items2[j] (c j)) (k : Nat) :
    ∀ i : Nat, items.size - i = k → Meets (Builtin.«list.__eq__.loop» ⟨[.ref l, .ref b, rawInt i, rawInt 0], []⟩)
      (fun _ R s => s.heap.get? l = some { cls := .type "list", dict := none, data := .seq items n, slots := #[] } ∧ s.heap.get? b = some { cls := .type "list", dict := none, data := .seq items2 n2, slots := #[] } ∧
        R (.ok (.ret (.bool (lexB e c ((List.range items.size).drop i))))) s) := by
  induction k with
  | zero =>
    intro i hk prog w A R s h
    obtain ⟨hp, g, d, tk, os⟩ := s; obtain ⟨hl, hb, h⟩ := h
    wp_walk using wpAny_loadPart' hl, wpAny_loadPart' hb
    have hi1 : items[((i : Nat) : Int).toNat]? = none := by simp; omega
    have hi2 : items2[((i : Nat) : Int).toNat]? = none := by simp; omega
    have hd : (List.range items.size).drop i = [] := by simp; omega
    rw [hd] at h
    rw [hi1, hi2]
    wp_walk using wpAny_loadPart' hl, wpAny_loadPart' hb
    show R (.ok (.ret (.bool (decide (items.size < items2.size))))) _
    rw [hsz]
    simpa [lexB] using h
  | succ k ih =>
    intro i hk prog w A R s h
    obtain ⟨hp, g, d, tk, os⟩ := s; obtain ⟨hl, hb, h⟩ := h
    wp_walk using wpAny_loadPart' hl, wpAny_loadPart' hb
    have hlt : i < items.size := by omega
    have hlt2 : i < items2.size := by omega
    have hi1 : items[((i : Nat) : Int).toNat]? = some items[i] := by simp [hlt]
    have hi2 : items2[((i : Nat) : Int).toNat]? = some items2[i] := by simp [hlt2]
    have hd : (List.range items.size).drop i = i :: (List.range items.size).drop (i + 1) := by simp [List.drop_eq_getElem_cons, hlt]
    have hcc : ((i : Int) + 1) = ((i + 1 : Nat) : Int) := by push_cast; rfl
    rw [hd, lexB] at h
    rw [hi1, hi2]
    refine wpAny_bind (he i hlt hlt2 prog w _ _ _ _ ?_)
    cases hb' : e i with
    | true =>
      rw [hb'] at h
      wp_walk
      rw [hcc]
      exact ⟨plainId_quiet plain_eq_loop _, codeAny_builtin entry_eq_loop (by
        rw [Around.under_plainId plain_eq_loop _]
        exact ih (i + 1) (by omega) prog w A R _ ⟨hl, hb, by simpa using h⟩)⟩
    | false =>
      rw [hb'] at h
      wp_walk using wpAny_loadPart' hl, wpAny_loadPart' hb
      rw [hi1, hi2]
      refine wpAny_bind (hc i hlt hlt2 prog w _ _ _ _ ?_)
      wp_walk
      simpa using h

theorem list_lt (l b : Addr) (items items2 : Array Value) (n n2 : Nat) (hsz : items.size = items2.size) (e c : Nat → Bool)
    (he : ∀ j (h1 : j < items.size) (h2 : j < items2.size), EqGives items[j] items2[j] (e j)) (hc : ∀ j (h1 : j < items.size) (h2 : j < items2.size), LtGives items[j] items2[j] (c j)) :
    Meets (Builtin.«list.__lt__» ⟨[.ref l, .ref b], []⟩)
      (fun _ R s => s.heap.get? l = some { cls := .type "list", dict := none, data := .seq items n, slots := #[] } ∧ s.heap.get? b = some { cls := .type "list", dict := none, data := .seq items2 n2, slots := #[] } ∧
        R (.ok (.ret (.bool (lexB e c (List.range items.size))))) s) := by
  intro prog w A R s h
  obtain ⟨hp, g, d, tk, os⟩ := s; obtain ⟨hl, hb, h⟩ := h
  have f3 := AutoSeq1.sub_list_list
  wp_walk using wpAny_loadPart' hl, wpAny_loadPart' hb
  exact ⟨plainId_quiet plain_eq_loop _, codeAny_builtin entry_eq_loop (by
    rw [Around.under_plainId plain_eq_loop _]
    exact lt_loop l b items items2 n n2 hsz e c he hc _ 0 rfl prog w A R _ ⟨hl, hb, by simpa using h⟩)⟩

section
variable {prog : Program} {w : World} {A : Around} {E : Value → Shared → Prop} {s : Shared} {l b : Addr} {its its2 : List Value} {n n2 : Nat}
theorem ltL {Q : Value → Shared → Prop} {e c : Nat → Bool} (hu : A.units < cLine) (hl : s.heap.get? l = some (listOf its.toArray n)) (hb : s.heap.get? b = some (listOf its2.toArray n2)) (hsz : its.length = its2.length)
    (he : ∀ j (h1 : j < its.length) (h2 : j < its2.length), EqGives its[j] its2[j] (e j)) (hc : ∀ j (h1 : j < its.length) (h2 : j < its2.length), LtGives its[j] its2[j] (c j))
    (h : Q (.bool (lexB e c (List.range its.length))) s) : wpAny (model prog w) A (compareOp .Lt (.ref l) (.ref b)) Q E s := by
  refine cmp_ofLt ?_
  refine wpAny_richCompare_same_room (T := "list") (id := "list.__lt__") ⟨_, hl, rfl⟩ ⟨_, hb, rfl⟩ PySem.F.slot_list_lt ?_ hu
  refine call_meets PySem.F.slot_list_lt ⟨_, hl, rfl⟩ PySem.F.entry_list_lt (PySem.F.args_list_lt_2 _ _) (list_lt l b its.toArray its2.toArray n n2 (by simpa using hsz) e c (fun j h1 h2 => by simpa using he j (by simpa using h1) (by simpa using h2)) (fun j h1 h2 => by simpa using hc j (by simpa using h1) (by simpa using h2))) ⟨hl, hb, ?_⟩
  exact ⟨(fun e => nomatch e), by simpa using h⟩
end

/-! bytes -/
theorem slot_bytes_lt : Slot "bytes" (cmpInfo .Lt).2.1 "bytes.__lt__" :=
  .of (owner := "bytes") (n := "__lt__") (by rw [typeLookup_type, builtinLookup_eq_fast]; kernel_rfl) (by decide +kernel) (by decide +kernel) (by decide +kernel)
    (by first | exact .inl (by decide +kernel) | exact .inr (by decide +kernel)) (by rw [isSubtype_type]; kernel_rfl)
theorem entry_bytes_lt : entryFor table "bytes.__lt__" = some Builtin.«bytes.__lt__» := entryFor_of_tree (by kernel_rfl)
theorem args_bytes_lt_2 (a b : Value) : argsOk "bytes.__lt__" ⟨[a, b], []⟩ := by
  unfold argsOk; rw [signature?_of (id := "bytes.__lt__") (n := ['_', '_', 't', 'l', '_', '_']) (o := ['s', 'e', 't', 'y', 'b']) (by kernel_rfl) FB.owner_bytes]; kernel_rfl
theorem gives_bytes_lt (b c : Array UInt8) (t u : Tok) : Gives (Builtin.«bytes.__lt__» ⟨[.bytes b t, .bytes c u], []⟩) (.val (.bool (Builtin.Bytes.order b.toList c.toList == .lt))) := by
  refine .of_wp fun M A E s Q hq => ?_
  show wpAny M A (isInstance (.bytes c u) (.type "bytes") >>= fun r => _) _ E s
  refine wpAny_bind (wpAny_isInstance (typeIs_bytes s c u) PySem.F.sub_bytes_bytes ?_)
  exact wpAny_pure ⟨_, rfl, hq⟩
theorem LtGives.bytes (b c : Array UInt8) (t u : Tok) : LtGives (.bytes b t) (.bytes c u) (Builtin.Bytes.order b.toList c.toList == .lt) := fun prog w A E s Q h =>
  (show wpAny (model prog w) A (compareOp .Lt (.bytes b t) (.bytes c u)) Q E s from compareOp_gives (op := .Lt) (typeIs_bytes s b t) (typeIs_bytes s c u) slot_bytes_lt entry_bytes_lt (args_bytes_lt_2 _ _) (gives_bytes_lt b c t u) (fun e => nomatch e) h)
theorem EqGives_bytes (b c : Array UInt8) (t u : Tok) : EqGives (.bytes b t) (.bytes c u) (b.toList == c.toList) := fun prog w A E s Q h => by
  unfold eqBool
  refine wpAny_holding ?_
  show wpAny _ _ (if (Value.bytes b t == Value.bytes c u) = true then _ else _) Q E s
  by_cases hab : (Value.bytes b t == Value.bytes c u) = true
  · rw [if_pos hab]
    have e : b = c := by have := eq_of_beq hab; injection this
    subst e
    exact wpAny_bind (wpAny_rule (wpAny_pure (by simpa using h)))
  · rw [if_neg hab]
    exact wpAny_bind (show wpAny (model prog w) A (compareOp .Eq (.bytes b t) (.bytes c u)) _ E s from eq_bytes (wpAny_truthy_bool h))
end Mine

namespace Mine

section
variable {prog : Program} {w : World} {A : Around} {E : Value → Shared → Prop} {s : Shared} {P : Par} {G : Heap} {L a f l : Addr} {ms : List (Str × Value)} {X X' : List (Addr × Obj)} {x : Str} {pos p apos : Pos} {n : Nat} {env : Env} {its : List Value}

theorem St.grow {h' : Heap} {t : Nat} (S : St P G X s) (k : Sub s.heap h') : St P G X { s with heap := h', toks := t } :=
  ⟨S.wd, fun b o e => k _ _ (S.keep b o e), fun q hq => k _ _ (S.has q hq), S.sep, S.nd, S.gens, S.os⟩
theorem FS.grow {h' : Heap} {t : Nat} (F : FS P G L ms X s) (k : Sub s.heap h') : FS P G L ms X { s with heap := h', toks := t } :=
  ⟨F.st.grow k, let ⟨m, ⟨o, es, ep, ho, r⟩, h2⟩ := F.ns; ⟨m, ⟨o, es, ep, k _ _ ho, r⟩, h2⟩, F.lo, F.ne⟩
theorem sub_of_ext {h h' : Heap} (k : Heap.ExtBut h.objs.size h h') : Sub h h' := fun b o e => k b o (Nat.ne_of_lt (Heap.lt_size e)) e

theorem absI {i : Int} {t : Tok} {Q : Value → Shared → Prop} (h : ∀ u t, Q (.int (i.natAbs : Int) u) { s with toks := t }) : wpAny (model prog w) A (call (.builtin "abs") [.int i t]) Q E s :=
  call_abs_int fun u tk => by
    have e : (if i < 0 then -i else i) = (i.natAbs : Int) := by split <;> omega
    rw [e]; exact h u tk
theorem negI {i : Int} {t : Tok} {Q : Value → Shared → Prop} (h : ∀ u t, Q (.int (-i) u) { s with toks := t }) : wpAny (model prog w) A (unaryOp .USub (.int i t)) Q E s := neg_int (h _ _)
theorem powM {t u : Tok} {Q : Value → Shared → Prop} (h : ∀ u t, Q (.int 1000000 u) { s with toks := t }) : wpAny (model prog w) A (binaryOp .Pow (.int 10 t) (.int 6 u)) Q E s :=
  pow_int_small (by decide) (by decide) (by decide) (h _ _)

theorem newListF {vs : List Value} {Q : Value → Shared → Prop} (F : FS P G L ms X s) (hz : vs.length ≤ 1000000) (h : ∀ l s', FS P G L ms ((l, listOf vs.toArray 0) :: X) s' → Q (.ref l) s') : wpAny (model prog w) A (newList vs) Q E s :=
  wpAny_newObj_type (h _ _ (F.alloc _)) (by show vs.toArray.size ≤ sizeLine; rw [List.size_toArray, sizeLine_eq]; omega)
theorem newListZ {vs : List Value} {Q : Value → Shared → Prop} (F : FS P G L ms X s) (hz : vs.length ≤ 1000000) (h : ∀ l G' s', Sub G G' → G'.get? l = some (listOf vs.toArray 0) → FS P G' L ms X s' → Q (.ref l) s') : wpAny (model prog w) A (newList vs) Q E s :=
  newListF F hz fun l s' F' => let ⟨G', h1, h2, h3⟩ := F'.freeze; h l G' s' h1 h2 h3

theorem FS.sliced (F : FS P G L ms X s) (o1 o2 : Obj) (h1 : o1.isFreed = false := by rfl) (h2 : o2.isFreed = false := by rfl) : FS P G L ms ((s.heap.objs.size + 1, o2) :: X) { s with heap := (s.heap.push o1).push o2 } := by
  have F2 := (F.alloc o1 h1).alloc o2 h2
  have e : (s.heap.push o1).objs.size = s.heap.objs.size + 1 := Heap.size_push _ _
  have F3 := (F2.perm (List.Perm.swap _ _ _)).drop
  rw [← e]
  exact F3

/-- x[lo:hi] of a list -/
theorem sliceF {value : Expr} {lower upper : Option Expr} {Q : Value → Shared → Prop}
    (h : wpAny (model prog w) A (eval value env) (fun o s₁ => wpAny (model prog w) A (evalPart lower env) (fun vl s₂ => wpAny (model prog w) A (evalPart upper env) (fun vu s₃ =>
      ∃ l its n lo hi G₁ ms₁ X₁, o = .ref l ∧ s₃.heap.get? l = some (listOf (List.toArray its) n) ∧ its.length ≤ 1000000 ∧ IsPart vl lo ∧ IsPart vu hi ∧ FS P G₁ L ms₁ X₁ s₃ ∧
        ∀ l' s₄, FS P G₁ L ms₁ ((l', listOf (slicePick its.toArray lo hi none) 0) :: X₁) s₄ → Q (.ref l') s₄) E s₂) E s₁) E s)
    (ht : ∀ o r, letTemporaryGo value o r = pure () := by intro _ _; rfl) :
    wpAny (model prog w) A (eval (.Subscript value (.Slice lower upper none p) pos) env) Q E s := by
  refine wpAny_Subscript_list_slice (wpAny_mono h (fun o s₁ h₁ => wpAny_mono h₁ (fun vl s₂ h₂ => wpAny_mono h₂ (fun vu s₃ h₃ => ?_) fun _ _ e => e) fun _ _ e => e) fun _ _ e => e) ht
  obtain ⟨l, its, n, lo, hi, G₁, ms₁, X₁, rfl, hl, hz, pl, pu, F₃, k⟩ := h₃
  exact ⟨l, its.toArray, lo, hi, rfl, PySem.IsL.isList (n := n) hl, by rw [sizeLine_eq]; simp; omega, pl, pu, k _ _ (F₃.sliced _ _)⟩

/-- b[lo:hi] of bytes -/
theorem sliceB {value : Expr} {lower upper : Option Expr} {Q : Value → Shared → Prop}
    (h : wpAny (model prog w) A (eval value env) (fun o s₁ => wpAny (model prog w) A (evalPart lower env) (fun vl s₂ => wpAny (model prog w) A (evalPart upper env) (fun vu s₃ =>
      ∃ b t lo hi G₁ ms₁ X₁, o = .bytes b t ∧ b.size ≤ 1000000 ∧ IsPart vl lo ∧ IsPart vu hi ∧ FS P G₁ L ms₁ X₁ s₃ ∧ ∀ t' s₄, FS P G₁ L ms₁ X₁ s₄ → Q (.bytes (KBy.picked b lo hi) t') s₄) E s₂) E s₁) E s)
    (ht : ∀ o r, letTemporaryGo value o r = pure () := by intro _ _; rfl) :
    wpAny (model prog w) A (eval (.Subscript value (.Slice lower upper none p) pos) env) Q E s := by
  refine wpAny_Subscript_Slice (T := "bytes") FB.slot_bytes_getitem.lookup (wpAny_mono h (fun o s₁ h₁ => wpAny_Slice (wpAny_mono h₁ (fun vl s₂ h₂ => wpAny_mono h₂ (fun vu s₃ h₃ => ?_) fun _ _ e => e) fun _ _ e => e)) fun _ _ e => e) ht
  obtain ⟨b, t, lo, hi, G₁, ms₁, X₁, rfl, hz, pl, pu, F₃, k⟩ := h₃
  rw [evalPart_none]
  refine wpAny_pure ⟨typeIs_bytes _ _ _, ?_⟩
  refine getItem_meets (typeIs_bytes _ _ _) (by decide) FB.slot_bytes_getitem FB.entry_bytes_getitem (FB.args_bytes_getitem_2 _ _) (KBc.meets_slice2 b t _ pl pu)
    ⟨Heap.IsSliceOf.new _ _ _ _, Nat.le_trans (KBc.size_picked_le b lo hi) (by rw [sizeLine_eq]; omega), fun t' k' => k t' _ ?_⟩
  exact ((F₃.alloc _).drop).toks k'

theorem bytesI {vs : List Value} {ns : List Int} {Q : Value → Shared → Prop} (R : A.handled = none) (F : FS P G L ms X s) (hl : s.heap.get? l = some (listOf vs.toArray n)) (hi : IntsAre vs ns) (hr : ∀ n ∈ ns, 0 ≤ n ∧ n < 256) (hz : vs.length ≤ 1000000)
    (h : ∀ t s', FS P G L ms X s' → Q (.bytes (byteArr ns) t) s') : wpAny (model prog w) A (call (.type "bytes") [.ref l]) Q E s :=
  call_bytes_ints (PySem.IsL.isList (n := n) hl) hi hr (by rw [sizeLine_eq]; omega) R fun h' t k q => h t _ (F.grow q)

/-- unpack a list | a tuple into names -/
theorem unpackL {elts : List Expr} {k : Nat} {Q : Unit → Shared → Prop} (R : A.handled = none) (F : FS P G L ms X s) (hl : s.heap.get? l = some (listOf its.toArray n)) (hn : (assignEach elts env).length = its.length) (hstar : (assignEach elts env).findIdx? (·.1) = none)
    (h : ∀ s', FS P G L ms X s' → wpAny (model prog w) A (assignInOrder ((assignEach elts env).map (·.2)) its) Q E s') : wpAny (model prog w) A (assign (.Tuple elts k pos) env (.ref l)) Q E s := by
  rw [assign_Tuple]
  refine wpAny_bind (wpAny_standAt ?_)
  unfold unpack
  rw [hstar, hn]
  refine wpAny_bind (wpAny_holding ?_)
  have e : its.length = its.toArray.size := by simp
  rw [e]
  exact kun_itemsOf R (PySem.IsL.isList (n := n) hl) fun h' k' => by simpa using h _ (F.grow (t := s.toks) (sub_of_ext k'))
theorem unpackT {elts : List Expr} {k : Nat} {items : Array Value} {Q : Unit → Shared → Prop} (R : A.handled = none) (F : FS P G L ms X s) (hl : IsTup s.heap l items) (hn : (assignEach elts env).length = items.size) (hstar : (assignEach elts env).findIdx? (·.1) = none)
    (h : ∀ s', FS P G L ms X s' → wpAny (model prog w) A (assignInOrder ((assignEach elts env).map (·.2)) items.toList) Q E s') : wpAny (model prog w) A (assign (.Tuple elts k pos) env (.ref l)) Q E s :=
  assign_Tuple_tuple R hl hn hstar fun h' k' => h _ (F.grow (t := s.toks) (sub_of_ext k'))
end
end Mine

namespace Mine

section
variable {prog : Program} {w : World} {A : Around} {E : Value → Shared → Prop} {s : Shared} {P : Par} {G : Heap} {L a f l : Addr} {ms : List (Str × Value)} {X X' : List (Addr × Obj)} {x : Str} {pos p apos : Pos} {n : Nat} {env : Env} {its : List Value}

theorem range_size (n : Nat) : Builtin.Range.rangeSize 0 (n : Int) 1 = n := by
  unfold Builtin.Range.rangeSize
  by_cases q : (0 : Int) < n
  · simp only [q, if_true, show (1 : Int) > 0 from by decide]; omega
  · have : n = 0 := by omega
    subst this; simp
theorem range_small {n : Nat} (h : n < 1000000000) : Builtin.Range.small 0 (n : Int) 1 = true := by
  unfold Builtin.Range.small
  rw [range_size]
  have e : Builtin.Range.rangeFitsLong (n : Int) = true := by unfold Builtin.Range.rangeFitsLong; simp only [Bool.and_eq_true, decide_eq_true_eq]; omega
  have e2 : Builtin.Range.rangeFitsLong ((n : Int) + (1 - 1)) = true := by rw [show (n : Int) + (1 - 1) = n by omega]; exact e
  rw [e]
  simp only [show (1 : Int) > 0 from by decide, if_true, e2, Bool.or_true, Bool.and_true]
  decide

/-- «for x in range(n)» -/
theorem forRangeF {iter : Expr} {body : List Stmt} {Q : Flow → Shared → Prop} (hh : A.handled = none)
    (hiter : wpAny (model prog w) A (eval iter env) (fun v s₁ => ∃ (n : Nat) (r : Addr) (t u t' : Tok) (G₁ : Heap) (ms₁ : List (Str × Value)) (X₁ : List (Addr × Obj)), n < 1000000000 ∧ v = .ref r ∧ FS P G₁ L ms₁ ((r, rangeObj (n : Int) t u t') :: X₁) s₁ ∧
      ∃ J : Nat → Heap → List (Str × Value) → List (Addr × Obj) → Prop, J 0 G₁ ms₁ X₁ ∧
      (∀ i t G' ms' X' s' I o', i < n → Sub G₁ G' → J i G' ms' X' → FS P G' L ((x, .int (i : Nat) t) :: ms') ((I, o') :: X') s' →
        wpAny (model prog w) A (execs body env) (fun f s₃ => match f with
          | .next | .cont => ∃ G'' ms'' X'', Sub G' G'' ∧ J (i + 1) G'' ms'' X'' ∧ FS P G'' L ms'' ((I, o') :: X'') s₃
          | .brk => Q .next s₃
          | .ret v => Q (.ret v) s₃) nE s') ∧
      (∀ G' ms' X' s', Sub G₁ G' → J n G' ms' X' → FS P G' L ms' X' s' → Q .next s')) nE s)
    (hk : env.scope.kind = .function := by rfl) (hl : env.kindOf x = some .local := by rfl) (hL : env.locals = L := by rfl) (hs : ∀ v, foldedSetIterable iter env v = pure v := by intro _; rfl) :
    wpAny (model prog w) A (exec (.For (.Name x p) iter body [] pos) env) Q E s := by
  refine wpAny_For (wpAny_mono hiter (fun v s₁ q => ?_) fun _ _ x => x.elim) hs
  obtain ⟨n, r, t, u, t', G₁, ms₁, X₁, hn, rfl, F₁, J, j0, step, done⟩ := q
  refine wpAny_pyIter_range (F₁.st.has _ (.head _)) (range_small hn) ?_
  rw [range_size]
  have F₂ := ((F₁.alloc (rit 0 n 1)).perm (List.Perm.swap _ _ _)).drop
  refine forNameF (n := n) (iter_range (x0 := 0) (c := 1) hh) (by show rit _ _ _ = rit _ _ _; simp) F₂ J j0 (fun i v G' ms' X' s' o' hi hv hG hJ _ F' => ?_) done hk hl hL
  obtain ⟨t2, rfl⟩ := hv
  have e : (0 : Int) + (i : Int) * 1 = (i : Nat) := by omega
  rw [e] at F'
  exact step i t2 G' ms' X' s' _ o' hi hG hJ F'
end
end Mine

namespace Mine

/-- a cell's object -/
abbrev cellO (o : Obj) (v : Option Value) : Obj := { o with data := .cell v }
/-- a namespace's object -/
noncomputable def NsO (o : Obj) (ms : List (Str × Value)) : Prop := ∃ (es : Array DictEntry) (ep : Nat) (m : Str → Option Value), o.data = .dict es ep ∧ StrKeys es ∧ (∀ name, nsFind es name = m name) ∧ ∀ x v, ms.lookup x = some v → m x = some v

section
variable {prog : Program} {w : World} {A : Around} {E : Value → Shared → Prop} {s : Shared} {P : Par} {G : Heap} {L a f l c C : Addr} {ms : List (Str × Value)} {X X' : List (Addr × Obj)} {x : Str} {pos p apos : Pos} {n : Nat} {env : Env} {its : List Value} {o oC : Obj}

theorem ldCell {v : Value} {Q : Value → Shared → Prop} (hm : s.heap.get? c = some (cellO o (some v))) (h : Q v s)
    (hk : env.scope.kind = .function := by rfl) (hl : env.kindOf x = some .cell := by rfl) (hc : env.cells.lookup x = some c := by rfl) (hd : (x == ("__debug__" : Str)) = false := by decide) :
    wpAny (model prog w) A (eval (.Name x pos) env) Q E s := wpAny_Name (wpAny_loadName_cell hk hl hc ⟨_, hm, rfl⟩ h) hd

theorem stCell {v₀ : Option Value} {v : Value} {Q : Unit → Shared → Prop} (F : FS P G L ms X s) (U : Up c (cellO o v₀) (cellO o (some v)) X X') (h : ∀ s', FS P G L ms X' s' → Q () s')
    (hk : env.scope.kind = .function := by rfl) (hl : env.kindOf x = some .cell := by rfl) (hc : env.cells.lookup x = some c := by rfl) :
    wpAny (model prog w) A (storeName env x v) Q E s := by
  have ho := F.st.has _ U.mem
  unfold storeName
  simp only [hl, hk]
  refine wpAny_bind (wpAny_cellOf hc ?_)
  unfold cellSet
  refine wpAny_bind (wpAny_load ho ?_)
  have hu : (s.heap.update c fun o => { o with data := .cell (some v) }).get? c = some (cellO o (some v)) := Heap.get?_update_self (o := cellO o v₀) (fun o => { o with data := .cell (some v) }) ho rfl
  exact wpAny_update ho (h _ (F.upd (t := s.toks) U (Heap.SameBut.update ..) hu))

theorem ldC {v : Value} {ms₂ : List (Str × Value)} {Q : Value → Shared → Prop} (hm : s.heap.get? C = some oC) (hN : NsO oC ms₂) (hv : ms₂.lookup x = some v) (h : Q v s)
    (hk : env.scope.kind = .function := by rfl) (hl : env.kindOf x = some .local := by rfl) (hd : (x == ("__debug__" : Str)) = false := by decide) (hC : env.locals = C := by rfl) :
    wpAny (model prog w) A (eval (.Name x pos) env) Q E s := by
  subst hC
  obtain ⟨es, ep, m, h1, h2, h3, h4⟩ := hN
  exact wpAny_Name (wpAny_loadName_local hk hl ⟨oC, es, ep, hm, h1, h2, h3⟩ (h4 _ _ hv) h) hd

theorem appL {its : List Value} {v : Value} {Q : Value → Shared → Prop} (F : FS P G L ms X s) (U : Up a (listOf its.toArray n) (listOf (its ++ [v]).toArray (n + 1)) X X') (hz : its.length ≤ 1000000) (h : ∀ s', FS P G L ms X' s' → Q .none s') :
    wpAny (model prog w) A (call (.builtin "list.append") [.ref a, v]) Q E s := by
  have hl := F.st.has _ U.mem
  refine call_meets PySem.F.slot_list_append ⟨_, hl, rfl⟩ PySem.F.entry_list_append (PySem.F.args_list_append_2 _ _) (PySem.list_append a its.toArray n v (by rw [sizeLine_eq]; simp; omega)) ⟨hl, ?_⟩
  exact h _ (upd_seq F U (by simp) (by simp))

theorem tests_nil {f : Expr → Bool → Sem (ForInStep Bool)} {Q : Bool → Shared → Prop} (h : Q true s) : wpAny (model prog w) A (forIn ([] : List Expr) true f) Q E s := by
  rw [List.forIn_nil]; exact wpAny_pure h
theorem tests_one {cond : Expr} {Q : Bool → Shared → Prop} (h : wpAny (model prog w) A (isTrue cond env (eval cond env)) Q E s) :
    wpAny (model prog w) A (forIn [cond] true fun c r => if r = true then do let ok ← isTrue c env (eval c env); pure (ForInStep.yield ok) else pure (ForInStep.yield r)) Q E s := by
  rw [List.forIn_cons]
  refine wpAny_bind ?_
  rw [if_pos rfl]
  refine wpAny_bind (wpAny_mono h (fun b s' q => wpAny_pure ?_) fun _ _ x => x)
  dsimp only
  rw [List.forIn_nil]
  exact wpAny_pure q

/-- the comprehension's loop: what is known when it begins, at a turn, at its end -/
structure CompJ (prog : Program) (w : World) (A : Around) (P : Par) (L : Addr) (cenv : Addr → Env) (x : Str) (ifs : List Expr) (elt : Expr) (its : List Value) (G₁ : Heap) (ms₁ : List (Str × Value)) (X₁ : List (Addr × Obj)) (J : Nat → Heap → List Value → Prop) : Prop where
  start : J 0 G₁ []
  step : ∀ i v G' acc C oC D k I o' s', its[i]? = some v → Sub G₁ G' → J i G' acc → NsO oC [(x, v)] → FS P G' L ms₁ ((C, oC) :: (D, listOf acc.toArray k) :: (I, o') :: X₁) s' →
    wpAny (model prog w) A (forIn ifs true fun c r => if r = true then do let ok ← isTrue c (cenv C) (eval c (cenv C)); pure (ForInStep.yield ok) else pure (ForInStep.yield r))
      (fun ok s₃ => if ok = true then wpAny (model prog w) A (eval elt (cenv C)) (fun y s₄ => ∃ G'', Sub G' G'' ∧ J (i + 1) G'' (acc ++ [y]) ∧ FS P G'' L ms₁ ((C, oC) :: (D, listOf acc.toArray k) :: (I, o') :: X₁) s₄) nE s₃
        else ∃ G'', Sub G' G'' ∧ J (i + 1) G'' acc ∧ FS P G'' L ms₁ ((C, oC) :: (D, listOf acc.toArray k) :: (I, o') :: X₁) s₃) nE s'

theorem comp_block {elt iter : Expr} {px : Pos} {ifs : List Expr} {scope : Scope} {cl : List (Str × Addr)} {G₁ : Heap} {ms₁ : List (Str × Value)} {X₁ : List (Addr × Obj)} {ln : Nat} {RR : Value → Addr → Result → Shared → Prop} {J : Nat → Heap → List Value → Prop}
    (hh : A.handled = none) (hcell : ∀ y ∈ scope.names, y.2 ≠ .cell) (hkind : scope.kind = .function) (hx : scope.names.lookup x = some .local)
    (F : FS P G₁ L ms₁ X₁ s) (hl : G₁.get? l = some (listOf its.toArray ln)) (hz : its.length ≤ 100000)
    (CJ : CompJ prog w A P L (fun C => compEnvC scope cl C env) x ifs elt its G₁ ms₁ X₁ J)
    (done : ∀ G' acc k C oC D s', Sub G₁ G' → J its.length G' acc → NsO oC [] → FS P G' L ms₁ ((C, oC) :: (D, listOf acc.toArray k) :: X₁) s' → RR (.ref D) C (.ok .next) s') :
    wpAny (model prog w) A (pyIter (.ref l)) (fun it s₂ => wpAny (model prog w) A (newList []) (fun acc s₃ => wpAny (model prog w) A (newFunctionEnv scope env.globals cl [] env.qual none .none (some env)) (fun cenv s₄ =>
      codeAny (model prog w) A (.compStart (.ListComp elt [⟨.Name x px, iter, ifs, 0⟩] scope pos) 0 it acc { cenv with scope := relabel scope env }) (RR acc cenv.locals) s₄) E s₃) E s₂) E s := by
  refine wpAny_pyIter_list (PySem.IsL.isList (n := ln) (F.st.keep _ _ hl)) ?_
  refine newListF (F.alloc { cls := .type "list_iterator", data := .fields #[.ref l, .int 0 0] }) (by simp) fun D s₂ F₂ => ?_
  refine wpAny_newFunctionEnv hcell (by intro y hy; simp at hy) (fun h₁ hns₁ hsb₁ => ?_) hkind
  obtain ⟨oC, es, ep, hoC, hd, hsk, hnf⟩ := hns₁
  have F₃ : FS P G₁ L ms₁ _ { s₂ with heap := h₁, toks := s₂.toks + ([] : List (Str × Value)).length } := (F₂.alloc { cls := .type "dict", data := .dict #[] }).upd .head hsb₁ hoC
  have hN : NsO oC [] := ⟨es, ep, _, hd, hsk, hnf, fun _ _ e => nomatch e⟩
  have loop : ∀ s₃ : Shared, FS P G₁ L ms₁ ((s₂.heap.objs.size, oC) :: (D, listOf ([] : List Value).toArray 0) :: (s.heap.objs.size, { cls := .type "list_iterator", data := .fields #[.ref l, .int 0 0] }) :: X₁) s₃ →
      codeAny (model prog w) A (.compLoop (.ListComp elt [⟨.Name x px, iter, ifs, 0⟩] scope pos) 0 (.ref s.heap.objs.size) (.ref D) (compEnvC scope cl s₂.heap.objs.size env)) (RR (.ref D) s₂.heap.objs.size) s₃ := by
    intro s₃ F₃
    have T := iter_list (prog := prog) (w := w) (I := s.heap.objs.size) hh hl
    refine codeAny_compLoop_tests (fun m s' => ∃ i G' acc k oC' o', m = its.length - i ∧ i ≤ its.length ∧ acc.length ≤ i ∧ Sub G₁ G' ∧ J i G' acc ∧ NsO oC' [] ∧ (o'.cls = .type "list_iterator" ∧ o'.data = .fields #[.ref l, .int i 0]) ∧
      FS P G' L ms₁ ((s₂.heap.objs.size, oC') :: (D, listOf acc.toArray k) :: (s.heap.objs.size, o') :: X₁) s') ?_ its.length ⟨0, G₁, [], 0, oC, _, rfl, Nat.zero_le _, Nat.le_refl _, fun _ _ e => e, CJ.start, hN, ⟨rfl, rfl⟩, F₃⟩
    rintro m s' ⟨i, G', acc, k, oC', o', rfl, hi, hacc, hG, hJ, hN', hIt, F'⟩
    have K : Sub G₁ s'.heap := fun b o e => F'.st.keep b o (hG b o e)
    by_cases hlt : i < its.length
    · refine T.next i o' s' _ _ hlt hIt K (F'.st.has _ (.tail _ (.tail _ (.head _)))) fun h' t v o₂ hv hIt' ho₂ hs => ?_
      have F₄ := F'.upd (t := t) (.tail (.tail .head)) hs ho₂
      refine wpAny_assign_Name ?_
      obtain ⟨es, ep, m, e1, e2, e3, e4⟩ := hN'
      have hns : ({ s' with heap := h', toks := t } : Shared).heap.Ns s₂.heap.objs.size m := ⟨oC', es, ep, F₄.st.has _ (.head _), e1, e2, e3⟩
      refine wpAny_storeName_local (env := compEnvC scope cl s₂.heap.objs.size env) (lookup_relabel_local hx) hns (fun h₅ hn₅ hs₅ => ?_) (by simp [compEnvC, relabel, hkind])
      obtain ⟨o₅, es₅, ep₅, ho₅, hd₅, hk₅, hf₅⟩ := hn₅
      have F₅ := F₄.upd (t := t + 1) .head hs₅ ho₅
      have hN₅ : NsO o₅ [(x, v)] := ⟨es₅, ep₅, _, hd₅, hk₅, hf₅, fun y u e => by
        rw [List.lookup_cons] at e
        by_cases q : y = x
        · subst q; simpa using e
        · have : (y == x) = false := by simpa using q
          rw [this] at e; cases e⟩
      have hN₆ : NsO o₅ [] := ⟨es₅, ep₅, _, hd₅, hk₅, hf₅, fun _ _ e => nomatch e⟩
      refine wpAny_mono (CJ.step i v G' acc _ o₅ D k _ o₂ _ hv hG hJ hN₅ F₅) (fun ok s₆ q => ?_) fun _ _ x => x.elim
      cases ok with
      | true =>
        rw [if_pos rfl] at q ⊢
        refine wpAny_mono q (fun y s₇ q₇ => ?_) fun _ _ x => x.elim
        obtain ⟨G'', hG'', hJ'', F₇⟩ := q₇
        exact appL F₇ (.tail .head) (by omega) fun s₈ F₈ => ⟨its.length - (i + 1), by omega, i + 1, G'', acc ++ [y], k + 1, o₅, o₂, rfl, by omega, by simp; omega, fun b o e => hG'' b o (hG b o e), hJ'', hN₆, hIt', F₈⟩
      | false =>
        rw [if_neg Bool.false_ne_true] at q ⊢
        obtain ⟨G'', hG'', hJ'', F₇⟩ := q
        exact ⟨its.length - (i + 1), by omega, i + 1, G'', acc, k, o₅, o₂, rfl, by omega, by omega, fun b o e => hG'' b o (hG b o e), hJ'', hN₆, hIt', F₇⟩
    · have e : i = its.length := by omega
      subst e
      refine T.stop o' s' _ _ hIt K (F'.st.has _ (.tail _ (.tail _ (.head _)))) fun h' k' => ?_
      exact done G' acc k _ oC' D _ hG hJ hN' ((F'.perm ((List.Perm.swap _ _ _).symm.cons _ |>.trans (List.Perm.swap _ _ _))).ext k')
  exact codeAny_compStart_list (loop _ F₃) (wpAny_pyIter_listiter ⟨_, F₃.st.has _ (.tail _ (.tail _ (.head _))), rfl, rfl⟩ (loop _ F₃))
end
end Mine

namespace Mine

section
variable {prog : Program} {w : World} {A : Around} {E : Value → Shared → Prop} {s : Shared} {P : Par} {G : Heap} {L a f l c C : Addr} {ms : List (Str × Value)} {X X' : List (Addr × Obj)} {x y : Str} {pos p apos px py spos : Pos} {n : Nat} {env : Env} {o oC : Obj}
  {elt iter : Expr} {ifs : List Expr} {scope : Scope} {cl : List (Str × Addr)}

/-- a list comprehension over a kept list -/
theorem compE {Q : Value → Shared → Prop} (hh : A.handled = none) (cl : List (Str × Addr)) (hclos : closureFor scope env = pure cl)
    (h : wpAny (model prog w) A (eval iter env) (fun v s₁ => ∃ (l : Addr) (its : List Value) (ln : Nat) (G₁ : Heap) (ms₁ : List (Str × Value)) (X₁ : List (Addr × Obj)) (J : Nat → Heap → List Value → Prop), v = .ref l ∧ G₁.get? l = some (listOf its.toArray ln) ∧ its.length ≤ 100000 ∧ FS P G₁ L ms₁ X₁ s₁ ∧
      CompJ prog w A P L (fun C => compEnvC scope cl C env) x ifs elt its G₁ ms₁ X₁ J ∧ ∀ G' acc k D s', Sub G₁ G' → J its.length G' acc → FS P G' L ms₁ ((D, listOf acc.toArray k) :: X₁) s' → Q (.ref D) s') E s)
    (hcell : ∀ y ∈ scope.names, y.2 ≠ .cell := by decide) (hkind : scope.kind = .function := by rfl) (hx : scope.names.lookup x = some .local := by rfl)
    (hnames : ∀ x ∈ scope.names, x.2 = .local → scope.names.lookup x.1 = some .local := by decide) (hs : ∀ x, foldedSetIterable iter env x = pure x := by intro _; rfl) :
    wpAny (model prog w) A (eval (.ListComp elt [⟨.Name x px, iter, ifs, 0⟩] scope pos) env) Q E s := by
  rw [eval_ListComp]
  refine wpAny_comprehension_free (use := none) rfl hs hclos hkind hnames (wpAny_mono h (fun xv s₁ h₁ => ?_) fun _ _ e => e)
  obtain ⟨l, its, ln, G₁, ms₁, X₁, J, rfl, hl, hz, F, CJ, done⟩ := h₁
  refine comp_block (RR := fun acc C => compPost (model prog w) A E none Q acc C) hh hcell hkind hx F hl hz CJ fun G' acc k C oC D s' hG hJ hN F' => ?_
  obtain ⟨es, ep, m, e1, e2, e3, _⟩ := hN
  exact ⟨m, ⟨oC, es, ep, F'.st.has _ (.head _), e1, e2, e3⟩, fun h' hs' => done G' acc k D _ hG hJ (F'.ext hs'.extBut)⟩

/-- y = [ .. ] -/
theorem compA {Q : Flow → Shared → Prop} (hh : A.handled = none) (cl : List (Str × Addr)) (hclos : closureFor scope env = pure cl)
    (h : wpAny (model prog w) A (eval iter env) (fun v s₁ => ∃ (l : Addr) (its : List Value) (ln : Nat) (G₁ : Heap) (ms₁ : List (Str × Value)) (X₁ : List (Addr × Obj)) (J : Nat → Heap → List Value → Prop), v = .ref l ∧ G₁.get? l = some (listOf its.toArray ln) ∧ its.length ≤ 100000 ∧ FS P G₁ L ms₁ X₁ s₁ ∧
      CompJ prog w A P L (fun C => compEnvC scope cl C env) x ifs elt its G₁ ms₁ X₁ J ∧ ∀ G' acc k D s', Sub G₁ G' → J its.length G' acc → FS P G' L ((y, .ref D) :: ms₁) ((D, listOf acc.toArray k) :: X₁) s' → Q .next s') E s)
    (hsw : swapsWith (.ListComp elt [⟨.Name x px, iter, ifs, 0⟩] scope pos) (some (.Name y py)) spos.line env = pure true := by rfl)
    (hcell : ∀ y ∈ scope.names, y.2 ≠ .cell := by decide) (hkind : scope.kind = .function := by rfl) (hx : scope.names.lookup x = some .local := by rfl)
    (hnames : ∀ x ∈ scope.names, x.2 = .local → scope.names.lookup x.1 = some .local := by decide) (hs : ∀ x, foldedSetIterable iter env x = pure x := by intro _; rfl)
    (hk : env.scope.kind = .function := by rfl) (hy : env.kindOf y = some .local := by rfl) (hL : env.locals = L := by rfl) :
    wpAny (model prog w) A (exec (.Assign [.Name y py] (.ListComp elt [⟨.Name x px, iter, ifs, 0⟩] scope pos) spos) env) Q E s := by
  rw [exec_Assign_Name_used _ _ _ _ hsw]
  refine wpAny_bind (wpAny_standAt (wpAny_bind ?_))
  show wpAny _ A (do let _ ← comprehension (.ListComp elt [⟨.Name x px, iter, ifs, 0⟩] scope pos) scope env _ (newList []) false (eval iter env) (some (assign (.Name y py) env))) _ _ s
  refine wpAny_bind (wpAny_mono (wpAny_comprehension_free (use := some (assign (.Name y py) env)) (Q := fun _ s' => Q .next s') rfl hs hclos hkind hnames
    (wpAny_mono h (fun xv s₁ h₁ => ?_) fun _ _ e => e)) (fun _ s' hq => wpAny_pure (wpAny_pure hq)) fun _ _ e => e)
  obtain ⟨l, its, ln, G₁, ms₁, X₁, J, rfl, hl, hz, F, CJ, done⟩ := h₁
  refine comp_block (RR := fun acc C => compPost (model prog w) A E (some (assign (.Name y py) env)) (fun _ s' => Q .next s') acc C) hh hcell hkind hx F hl hz CJ fun G' acc k C oC D s' hG hJ hN F' => ?_
  obtain ⟨es, ep, m, e1, e2, e3, _⟩ := hN
  show wpAny _ A (assign (.Name y py) env (.ref D)) _ _ _
  refine wpAny_assign_Name (stF F' (fun s₂ F₂ => ?_) hk hy hL)
  exact ⟨m, ⟨oC, es, ep, F₂.st.has _ (.head _), e1, e2, e3⟩, fun h' hs' => done G' acc k D _ hG hJ (F₂.ext hs'.extBut)⟩
end

section
variable {prog : Program} {w : World} {A : Around} {E : Value → Shared → Prop} {s : Shared} {P : Par} {G : Heap} {X : List (Addr × Obj)}

theorem cells_led {h : Heap} {cm : Str → Option Value} : ∀ {cs : List (Str × Addr)}, (∀ n c, (n, c) ∈ cs → h.IsCell c (cm n)) → ∃ cells, CellsAre cm cs cells ∧ (∀ p ∈ cells, h.get? p.1 = some p.2) ∧ cells.map (·.1) = cs.map (·.2)
  | [], _ => ⟨[], .nil, (fun _ h => nomatch h), rfl⟩
  | (n, c) :: cs, hx => by
    obtain ⟨cells, h1, h2, h3⟩ := cells_led (cs := cs) fun n' c' hm => hx n' c' (List.mem_cons_of_mem _ hm)
    obtain ⟨o, ho, hd⟩ := hx n c List.mem_cons_self
    refine ⟨(c, o) :: cells, .cons hd h1, fun p hp => ?_, by simp [h3]⟩
    rcases List.mem_cons.mp hp with rfl | hp
    · exact ho
    · exact h2 p hp

/-- a def with cells is entered -/
theorem enterC {d : DefRec} {args : List Value} {binds : List (Str × Value)} {Q : Value → Shared → Prop} {fa : Addr} {k : Nat} (i : Nat) (hi : defs[i]? = some d) (hfa : P.mg d.name = some (.ref fa)) (R : Room A (k + 1)) (S : St P G X s)
    (ms : List (Str × Value))
    (hbind : ∀ pm code doc, bindArgs (Calls.docDef d.name d.params d.body d.scope pm code doc) ⟨args, []⟩ = pure binds)
    (hkind : (binds.all fun y => d.scope.names.lookup y.1 == some .local || d.scope.names.lookup y.1 == some .cell) = true)
    (hnd : ((cellsFrom 0 d.scope.names []).map (·.1)).Nodup)
    (hms : ∀ L cd, ∀ x v, ms.lookup x = some v → bindL (envOfC d.name d.scope L fa cd).kindOf binds (fun _ => none) x = some v)
    (h : ∀ L cd A' s' cells, Room A' k → CellsAre (bindC (envOfC d.name d.scope L fa cd).kindOf binds fun _ => none) (cellsFrom (L + 1) d.scope.names []) cells → FS P G L ms (cells ++ X) s' →
      wpAny (model prog w) A' (execs d.body (envOfC d.name d.scope L fa cd)) (fun f s'' => Q (match f with | .ret v => v | _ => .none) s'') nE s')
    (hco : d.scope.isCoroutine = false := by rfl) (hgen : d.scope.isGenerator = false := by rfl) (hk : d.scope.kind = .function := by rfl) :
    wpAny (model prog w) A (call (.ref fa) args) Q E s := by
  obtain ⟨a, o, pm, code, doc, h1, h2, h3, h4⟩ := S.wd.fn d (List.mem_of_getElem? hi)
  have e1 : a = fa := by rw [h1] at hfa; cases hfa; rfl
  subst e1
  refine wpAny_call (codeAny_call_cells (fd := Calls.docDef d.name d.params d.body d.scope pm code doc) (body := d.body) (by have := R.depth; omega) (S.keep _ _ h2) h3 (S.wd.nolimit.keeps S.keep) (h4.keeps S.keep) rfl (hbind _ _ _) rfl (kindsX hkind _) (fun s₁ x => ?_) hco hgen hk)
  obtain ⟨⟨⟨h', tk, hsame⟩, hns, hkeep, hfresh⟩, hcell, hap, hab⟩ := x
  have hcs : ∀ n c, (n, c) ∈ cellsFrom (s.heap.objs.size + 1) d.scope.names [] → s₁.heap.IsCell c (bindC (envOfC d.name d.scope s.heap.objs.size a code).kindOf binds (fun _ => none) n) := fun n c hm =>
    hcell n c (lookup_of_mem_nodup (show ((cellsFrom (s.heap.objs.size + 1) d.scope.names []).map (·.1)).Nodup by rw [cellsFrom_names _ _ 0 _ [] rfl]; exact hnd) hm)
  obtain ⟨cells, c1, c2, c3⟩ := cells_led hcs
  have habc : ∀ p ∈ cells, s.heap.objs.size < p.1 := fun p hp => by
    have : p.1 ∈ (cellsFrom (s.heap.objs.size + 1) d.scope.names []).map (·.2) := c3 ▸ List.mem_map_of_mem hp
    obtain ⟨q, hq, e⟩ := List.mem_map.mp this
    rw [← e]
    exact hab q.1 q.2 hq
  have F : FS P G s.heap.objs.size ms (cells ++ X) s₁ := by
    refine ⟨⟨S.wd, fun b o e => hkeep _ _ (S.keep b o e), fun p hp => ?_, fun p hp => ?_, ?_, by rw [hsame]; exact S.gens, by rw [hsame]; exact S.os⟩, ⟨_, hns, hms _ code⟩, S.fresh (Nat.le_refl _), fun p hp => ?_⟩
    · rcases List.mem_append.mp hp with q | q
      · exact c2 p q
      · exact hkeep _ _ (S.has p q)
    · rcases List.mem_append.mp hp with q | q
      · exact S.fresh (Nat.le_of_lt (habc p q))
      · exact S.sep p q
    · rw [List.map_append, c3]
      refine List.nodup_append.mpr ⟨?_, S.nd, fun a ha b hb e => ?_⟩
      · exact List.pairwise_map.mpr hap
      · obtain ⟨q, hq, rfl⟩ := List.mem_map.mp ha
        obtain ⟨r, hr, rfl⟩ := List.mem_map.mp hb
        have e1 := hab q.1 q.2 hq
        have e2 := Heap.lt_size (S.has r hr)
        rw [e] at e1
        exact absurd e1 (Nat.not_lt.mpr (Nat.le_of_lt e2))
    · rcases List.mem_append.mp hp with q | q
      · exact Nat.ne_of_gt (habc p q)
      · exact Nat.ne_of_lt (Heap.lt_size (S.has p q))
  exact wpAny_mono (h _ code _ _ cells R.deeper c1 F) (fun _ _ x => x) fun _ _ x => x.elim
end
end Mine

namespace Mine
open PySem.MeetsSeq

section
variable {prog : Program} {w : World} {A : Around} {E : Value → Shared → Prop} {s : Shared} {P : Par} {G : Heap} {L a b l : Addr} {ms : List (Str × Value)} {X X' : List (Addr × Obj)} {n n2 : Nat} {its its2 : List Value} {o : Obj}

/-- a callee is handed one object of the ledger -/
theorem FS.callU (F : FS P G L ms X s) (hm : (a, o) ∈ X) :
    ∃ G', St P G' [(a, o)] s ∧ Sub G G' ∧ ∀ s' o', St P G' [(a, o')] s' → ∀ X', Up a o o' X X' → FS P G L ms X' s' := by
  have S : St P G [(a, o)] s := ⟨F.st.wd, F.st.keep, fun q hq => F.st.has q (by simp at hq; subst hq; exact hm), fun q hq => F.st.sep q (by simp at hq; subst hq; exact hm), by simp, F.st.gens, F.st.os⟩
  obtain ⟨S', k⟩ := S.most
  refine ⟨_, S', k, fun s' o' T X' U => ?_⟩
  have old : ∀ b o₁, b ≠ a → s.heap.get? b = some o₁ → (hideAll s.heap ([(a, o)].map (·.1))).get? b = some o₁ := fun b o₁ hb e => hideAll_get _ e (by simpa using hb)
  refine ⟨⟨F.st.wd, fun b o e => T.keep b o (k b o e), fun q hq => ?_, fun q hq => ?_, ?_, T.gens, T.os⟩, ?_, F.lo, fun q hq => ?_⟩
  · rcases U.mem' F.st.nd q hq with h | h
    · subst h; exact T.has _ (.head _)
    · exact T.keep _ _ (old _ _ h.2 (F.st.has q h.1))
  · rcases U.mem' F.st.nd q hq with h | h
    · subst h; exact F.st.sep (a, o) U.mem
    · exact F.st.sep q h.1
  · rw [U.addrs]; exact F.st.nd
  · obtain ⟨m, ⟨o₁, es, ep, ho, r⟩, h2⟩ := F.ns
    exact ⟨m, ⟨o₁, es, ep, T.keep _ _ (old _ _ (fun e => F.ne _ hm e.symm) ho), r⟩, h2⟩
  · rcases U.mem' F.st.nd q hq with h | h
    · subst h; exact F.ne (a, o) U.mem
    · exact F.ne q h.1

/-- a callee that makes new things: they are kept -/
theorem FS.callG (F : FS P G L ms X s) :
    ∃ G₀, St P G₀ [] s ∧ Sub G G₀ ∧ ∀ s' G₁ Y, Sub G₀ G₁ → St P G₁ Y s' → ∃ G', Sub G G' ∧ FS P G' L ms (Y ++ X) s' ∧ ∀ b o, G₁.get? b = some o → (∀ es ep, o.data ≠ .dict es ep) → (∀ q ∈ X, q.1 ≠ b) → G'.get? b = some o := by
  have S : St P G [] s := ⟨F.st.wd, F.st.keep, (fun q hq => nomatch hq), (fun q hq => nomatch hq), List.nodup_nil, F.st.gens, F.st.os⟩
  obtain ⟨S', k⟩ := S.most
  refine ⟨_, S', k, fun s' G₁ Y k₁ T => ?_⟩
  have old : ∀ b o, s.heap.get? b = some o → G₁.get? b = some o := fun b o e => k₁ b o (hideAll_get _ e (by simp))
  have sub : Sub G (hideAll G₁ (L :: X.map (·.1))) := sub_hide (fun b o e => k₁ b o (k b o e)) fun a ha => by
    rcases List.mem_cons.mp ha with h | h
    · subst h; exact F.lo
    · obtain ⟨q, hq, rfl⟩ := List.mem_map.mp h; exact F.st.sep q hq
  obtain ⟨m, ⟨oL, es, ep, hoL, r⟩, h2⟩ := F.ns
  refine ⟨hideAll G₁ (L :: X.map (·.1)), sub, ⟨⟨F.st.wd.keeps sub, fun b o e => T.keep b o (of_hideAll _ e), fun q hq => ?_, fun q hq => ?_, ?_, T.gens, T.os⟩, ⟨m, ⟨oL, es, ep, T.keep _ _ (old _ _ hoL), r⟩, h2⟩, hideAll_none _ (.head _), fun q hq e => ?_⟩, fun b o e hd hX => ?_⟩
  · rcases List.mem_append.mp hq with h | h
    · exact T.has q h
    · exact T.keep _ _ (old _ _ (F.st.has q h))
  · rcases List.mem_append.mp hq with h | h
    · cases e : (hideAll G₁ (L :: X.map (·.1))).get? q.1 with
      | none => rfl
      | some o => have := T.sep q h; rw [of_hideAll _ e] at this; cases this
    · exact hideAll_none _ (.tail _ (List.mem_map_of_mem h))
  · rw [List.map_append]
    refine List.nodup_append.mpr ⟨T.nd, F.st.nd, fun a ha b hb e => ?_⟩
    obtain ⟨q, hq, rfl⟩ := List.mem_map.mp ha
    obtain ⟨q', hq', rfl⟩ := List.mem_map.mp hb
    have := T.sep q hq
    rw [e, old _ _ (F.st.has q' hq')] at this; cases this
  · rcases List.mem_append.mp hq with h | h
    · have := T.sep q h; rw [e, old _ _ hoL] at this; cases this
    · exact F.ne q h e
  · refine hideAll_get _ e fun q => ?_
    rcases List.mem_cons.mp q with h | h
    · subst h
      rw [old _ _ hoL] at e
      cases e
      exact hd es ep r.1
    · obtain ⟨q', hq', e'⟩ := List.mem_map.mp h
      exact hX q' hq' e'

theorem neL {Q : Value → Shared → Prop} {e : Nat → Bool} (hu : A.units < cLine) (hl : s.heap.get? l = some (listOf its.toArray n)) (hb : s.heap.get? b = some (listOf its2.toArray n2)) (hsz : its.length = its2.length)
    (he : ∀ j (h1 : j < its.length) (h2 : j < its2.length), SeqAt.EqAt A.in1 s its[j] its2[j] (e j))
    (h : Q (.bool (!(List.range its.length).all e)) s) : wpAny (model prog w) A (compareOp .NotEq (.ref l) (.ref b)) Q E s := by
  refine cmp_ofNotEq ?_
  refine wpAny_richCompare_same_room (T := "list") (id := "list.__ne__") ⟨_, hl, rfl⟩ ⟨_, hb, rfl⟩ PySem.F.slot_list_ne ?_ hu
  refine call_meets PySem.F.slot_list_ne ⟨_, hl, rfl⟩ PySem.F.entry_list_ne (PySem.F.args_list_ne_2 _ _) (SeqAt.list_neAt l b its.toArray its2.toArray n n2 none none #[] #[] (by simpa using hsz) e) ⟨hl, hb, fun j h1 h2 => ?_, ?_⟩
  · simpa using he j (by simpa using h1) (by simpa using h2)
  · exact ⟨(fun e => nomatch e), by simpa using h⟩

theorem lenB {bs : List UInt8} {t : Tok} {Q : Value → Shared → Prop} (hz : bs.length ≤ 1000000) (h : ∀ u t, Q (.int (bs.length : Int) u) { s with toks := t }) : wpAny (model prog w) A (call (.builtin "len") [.bytes bs.toArray t]) Q E s :=
  len_bytes (by simp; omega) (by simpa using h _ _)

/-- «for x in e», e a kept list that e's evaluation makes -/
theorem forListV {x : Str} {p pos : Pos} {env : Env} {iter : Expr} {body : List Stmt} {Q : Flow → Shared → Prop} (hh : A.handled = none)
    (hiter : wpAny (model prog w) A (eval iter env) (fun v s₁ => ∃ (l : Addr) (its : List Value) (ln : Nat) (G₁ : Heap) (ms₁ : List (Str × Value)) (X₁ : List (Addr × Obj)), v = .ref l ∧ G₁.get? l = some (listOf its.toArray ln) ∧ FS P G₁ L ms₁ X₁ s₁ ∧
      ∃ J : Nat → Heap → List (Str × Value) → List (Addr × Obj) → Prop, J 0 G₁ ms₁ X₁ ∧
      (∀ i v G' ms' X' s' I o', its[i]? = some v → Sub G₁ G' → J i G' ms' X' → FS P G' L ((x, v) :: ms') ((I, o') :: X') s' →
        wpAny (model prog w) A (execs body env) (fun f s₃ => match f with
          | .next | .cont => ∃ G'' ms'' X'', Sub G' G'' ∧ J (i + 1) G'' ms'' X'' ∧ FS P G'' L ms'' ((I, o') :: X'') s₃
          | .brk => Q .next s₃
          | .ret v => Q (.ret v) s₃) nE s') ∧
      (∀ G' ms' X' s', Sub G₁ G' → J its.length G' ms' X' → FS P G' L ms' X' s' → Q .next s')) nE s)
    (hk : env.scope.kind = .function := by rfl) (hl : env.kindOf x = some .local := by rfl) (hL : env.locals = L := by rfl) (hs : ∀ v, foldedSetIterable iter env v = pure v := by intro _; rfl) :
    wpAny (model prog w) A (exec (.For (.Name x p) iter body [] pos) env) Q E s := by
  refine wpAny_For (wpAny_mono hiter (fun v s₁ q => ?_) fun _ _ x => x.elim) hs
  obtain ⟨l, its, ln, G₁, ms₁, X₁, rfl, hg, F₁, J, j0, step, done⟩ := q
  refine wpAny_pyIter_list (PySem.IsL.isList (n := ln) (F₁.st.keep _ _ hg)) ?_
  exact forNameF (iter_list hh hg) ⟨rfl, rfl⟩ (F₁.alloc _) J j0 (fun i v G' ms' X' s' o' _ hv hG hJ _ F' => step i v G' ms' X' s' _ o' hv hG hJ F') done hk hl hL
end
end Mine

namespace Mine
local macro_rules | `(tactic| walk_at "up") => `(tactic| first | exact Up.head | exact Up.tail Up.head | exact Up.tail (Up.tail Up.head) | exact Up.tail (Up.tail (Up.tail Up.head)))
local macro_rules | `(tactic| walk_at "cov") => `(tactic| repeat (first | exact cov_nil | refine cov_cons rfl ?_))

/-- a comparison of things by a key -/
noncomputable def Cmp (prog : Program) (w : World) (G : Heap) (key : Value → Nat) (D : Value → Prop) : Prop :=
  ∀ (A : Around) (x y : Value) (Q : Value → Shared → Prop) (E : Value → Shared → Prop) (s : Shared), Room A 0 → Sub G s.heap → D x → D y → (∀ t, Q (.bool (decide (key x < key y))) { s with toks := t }) → wpAny (model prog w) A (compareOp .Lt x y) Q E s

theorem Cmp.mono {prog : Program} {w : World} {G G' : Heap} {key : Value → Nat} {D : Value → Prop} (C : Cmp prog w G key D) (k : Sub G G') : Cmp prog w G' key D :=
  fun A x y Q E s R K => C A x y Q E s R fun b o e => K b o (k b o e)

set_option maxHeartbeats 2000000 in
theorem siftdown_c {prog : Program} {w : World} {A : Around} {E : Value → Shared → Prop} {s : Shared} {P : Par} {G : Heap} {a fa : Addr} {n : Nat} {its : List Value} {st ps : Nat} {t1 t2 : Tok} {key : Value → Nat} {D : Value → Prop} {Q : Value → Shared → Prop}
    (hfa : P.mg "_siftdown" = some (.ref fa)) (R : Room A 3) (S : St P G [(a, listOf its.toArray n)] s) (C : Cmp prog w G key D) (hD : ∀ v ∈ its, D v) (hp : ps < its.length) (hlen : its.length ≤ 1000000)
    (h : ∀ s', St P G [(a, listOf (sdown key (at' its ps) st ps its).toArray n)] s' → Q .none s') :
    wpAny (model prog w) A (call (.ref fa) [.ref a, .int st t1, .int ps t2]) Q E s := by
  refine enterD (binds := [("heap", .ref a), ("startpos", .int st t1), ("pos", .int ps t2)]) 4 rfl hfa R S (fun _ _ _ => rfl) (locs rfl) (fun L cd A' s' R F => ?_)
  refine wpAny_execs_cons (wpAny_Assign_Name ?_)
  refine Subscript_ (ldF F rfl (ldF F rfl (subN (F.st.has _ (.head _)) hp hlen (stF F fun s1 F1 => ?_))))
  refine seqF (fun s => ∃ its' : List Value, ∃ k : Nat, ∃ t, k < its.length ∧ its'.length = its.length ∧ its'.set k (at' its ps) = sdown key (at' its ps) st ps its ∧ FS P G L [("heap", .ref a), ("startpos", .int st t1), ("newitem", at' its ps), ("pos", .int k t)] [(a, listOf its'.toArray n)] s) ?_ ?_
  · refine whileF (fun k s => ∃ its' : List Value, ∃ t, k < its.length ∧ its'.length = its.length ∧ (∀ v ∈ its', D v) ∧ sdown key (at' its ps) st k its' = sdown key (at' its ps) st ps its ∧ FS P G L [("heap", .ref a), ("startpos", .int st t1), ("newitem", at' its ps), ("pos", .int k t)] [(a, listOf its'.toArray n)] s) ?_ ps
      ⟨its, t2, hp, rfl, hD, rfl, F1.weaken (by walk_at "cov")⟩
    rintro k s2 ⟨its', t, hk, hl, hD', he, F2⟩
    have hx : D (at' its ps) := hD _ (by simp [at', List.getD, hp])
    have hk2 : (k - 1) / 2 < its'.length := by omega
    have hy : D (at' its' ((k - 1) / 2)) := hD' _ (by simp [at', List.getD, hk2])
    refine wpAny_isTrue_Compare1 (ldF F2 rfl (ldF F2 rfl (gt_int (wpAny_truthy_bool ?_))))
    split
    · rename_i hgt
      have hgt' : st < k := by simpa using hgt
      have ek : ((k : Int) - 1) / 2 = (((k - 1) / 2 : Nat) : Int) := by omega
      refine wpAny_execs_cons (wpAny_Assign_Name (wpAny_BinOp (wpAny_BinOp (ldF F2 rfl (constI fun _ _ => subI fun _ _ => constI fun _ _ => rshI (by omega) fun u0 t0 => stF (F2.toks t0) fun s3 F3 => ?_)))))
      rw [ek] at F3
      refine wpAny_execs_cons (wpAny_Assign_Name (Subscript_ (ldF F3 rfl (ldF F3 rfl (subN (F3.st.has _ (.head _)) hk2 (by omega) (stF F3 fun s4 F4 => ?_))))))
      refine wpAny_execs_cons (wpAny_If (wpAny_isTrue_Compare1 (ldF F4 rfl (ldF F4 rfl (C _ _ _ _ _ _ (R.less (by omega)) F4.st.keep hx hy fun t' => wpAny_truthy_bool ?_)))))
      have F5 := F4.toks t'
      split
      · rename_i hlt
        have hlt' : key (at' its ps) < key (at' its' ((k - 1) / 2)) := by simpa using hlt
        refine wpAny_execs_cons (wpAny_Assign_Subscript (ldF F5 rfl (ldF F5 rfl (ldF F5 rfl (setF F5 (by walk_at "up") (by omega) (by omega) (by omega) fun s6 F6 => ?_)))))
        refine wpAny_execs_cons (wpAny_Assign_Name (ldF F6 rfl (stF F6 fun s7 F7 => ?_)))
        refine wpAny_execs_cons (wpAny_Continue ?_)
        refine ⟨(k - 1) / 2, by omega, its'.set k (at' its' ((k - 1) / 2)), _, by omega, by simpa using hl, ?_, ?_, F7.weaken (by walk_at "cov")⟩
        · intro v hv
          rcases List.mem_or_eq_of_mem_set hv with h | h
          · exact hD' v h
          · rw [h]; exact hy
        · rw [← he]
          conv => rhs; unfold sdown
          rw [dif_pos (by omega), if_pos hlt']
      · rename_i hlt
        have hlt' : ¬ key (at' its ps) < key (at' its' ((k - 1) / 2)) := by simpa using hlt
        refine wpAny_execs_nil (wpAny_execs_cons (wpAny_Break ?_))
        refine ⟨rfl, its', k, t, hk, hl, ?_, F5.weaken (by walk_at "cov")⟩
        rw [← he]
        conv => rhs; unfold sdown
        rw [dif_pos (by omega), if_neg hlt']
    · rename_i hgt
      have hgt' : ¬ st < k := by simpa using hgt
      refine ⟨rfl, its', k, t, hk, hl, ?_, F2⟩
      rw [← he]
      conv => rhs; unfold sdown
      rw [dif_neg (by omega)]
  · rintro s2 ⟨its', k, t, hk, hl, he, F2⟩
    refine wpAny_execs_cons (wpAny_Assign_Subscript (ldF F2 rfl (ldF F2 rfl (ldF F2 rfl (setF F2 (by walk_at "up") (by omega) (by omega) (by omega) fun s6 F6 => ?_)))))
    refine wpAny_execs_nil (h s6 ?_)
    have := F6.st
    simp only [Int.toNat_natCast] at this
    rw [he] at this
    exact this

set_option maxHeartbeats 2000000 in
theorem siftup_c {prog : Program} {w : World} {A : Around} {E : Value → Shared → Prop} {s : Shared} {P : Par} {G : Heap} {a fa : Addr} {n : Nat} {its : List Value} {ps : Nat} {t1 : Tok} {key : Value → Nat} {D : Value → Prop} {Q : Value → Shared → Prop}
    (hfa : P.mg "_siftup" = some (.ref fa)) (R : Room A 5) (S : St P G [(a, listOf its.toArray n)] s) (C : Cmp prog w G key D) (hD : ∀ v ∈ its, D v) (hp : ps < its.length) (hlen : its.length ≤ 1000000)
    (h : ∀ s', St P G [(a, listOf (sup key ps its).toArray n)] s' → Q .none s') :
    wpAny (model prog w) A (call (.ref fa) [.ref a, .int ps t1]) Q E s := by
  refine enterD (binds := [("heap", .ref a), ("pos", .int ps t1)]) 5 rfl hfa R S (fun _ _ _ => rfl) (locs rfl) (fun L cd A' s' R F => ?_)
  refine wpAny_execs_cons (wpAny_Assign_Name (callB F bi_len (by decide) (spliced_more (ldF F rfl (spliced_none (lenL (F.st.has _ (.head _)) hlen fun u0 t0 => stF (F.toks t0) fun s1 F1 => ?_))))))
  refine wpAny_execs_cons (wpAny_Assign_Name (ldF F1 rfl (stF F1 fun s2 F2 => ?_)))
  refine wpAny_execs_cons (wpAny_Assign_Name (Subscript_ (ldF F2 rfl (ldF F2 rfl (subN (F2.st.has _ (.head _)) hp hlen (stF F2 fun s3 F3 => ?_))))))
  refine wpAny_execs_cons (wpAny_Assign_Name (wpAny_BinOp (wpAny_BinOp (constI fun _ _ => ldF (F3.toks _) rfl (mulI fun _ _ => constI fun _ _ => addI fun u4 t4 => stF (F3.toks t4) fun s4 F4 => ?_)))))
  refine seqF (fun s => ∃ its' : List Value, ∃ k : Nat, ∃ t, k < its.length ∧ its'.length = its.length ∧ (∀ v ∈ its', D v) ∧ (k, its') = sway key ps its ∧ FS P G L [("heap", .ref a), ("startpos", .int ps t1), ("newitem", at' its ps), ("pos", .int k t)] [(a, listOf its'.toArray n)] s) ?_ ?_
  · refine whileF (fun m s => ∃ its' : List Value, ∃ k : Nat, ∃ t t', m = its.length - k ∧ k < its.length ∧ its'.length = its.length ∧ (∀ v ∈ its', D v) ∧ sway key k its' = sway key ps its ∧
        FS P G L [("heap", .ref a), ("startpos", .int ps t1), ("newitem", at' its ps), ("pos", .int k t), ("endpos", .int its.length u0), ("childpos", .int (2 * k + 1 : Nat) t')] [(a, listOf its'.toArray n)] s) ?_ (its.length - ps)
      ⟨its, ps, t1, u4, rfl, hp, rfl, hD, rfl, F4.weaken (by walk_at "cov")⟩
    rintro m s2 ⟨its', k, t, t', rfl, hk, hl, hD', he, F2⟩
    refine wpAny_isTrue_Compare1 (ldF F2 rfl (ldF F2 rfl (lt_int (wpAny_truthy_bool ?_))))
    split
    · rename_i hgt
      have hlt : 2 * k + 1 < its.length := by simpa only [decide_eq_true_eq, Int.ofNat_lt] using hgt
      have hlt' : 2 * k + 1 < its'.length := by omega
      refine wpAny_execs_cons (wpAny_Assign_Name (wpAny_BinOp (ldF F2 rfl (constI fun _ _ => addI fun u5 t5 => stF (F2.toks t5) fun s3 F3 => ?_))))
      have hc1 := lesser_ge key its' (2 * k + 1)
      have hc2 := lesser_lt (key := key) hlt'
      refine seqF (fun s => ∃ t', FS P G L [("heap", .ref a), ("startpos", .int ps t1), ("newitem", at' its ps), ("pos", .int k t), ("endpos", .int its.length u0), ("childpos", .int (lesser key its' (2 * k + 1) : Nat) t')] [(a, listOf its'.toArray n)] s) ?_ ?_
      · refine wpAny_If <| isTrue_and <| wpAny_isTrue_Compare1 <| ldF F3 rfl <| ldF F3 rfl <| lt_int <| wpAny_truthy_bool ?_
        split
        · rename_i hr
          have hr' : 2 * k + 1 + 1 < its'.length := by simp only [decide_eq_true_eq] at hr; omega
          refine isTrue_and <| isTrue_not <| wpAny_isTrue_Compare1 <| Subscript_ <| ldF F3 rfl <| ldF F3 rfl <| subN (F3.st.has _ (.head _)) hlt' (by omega) <| Subscript_ <| ldF F3 rfl <| ldF F3 rfl <|
            subN (j := 2 * k + 1 + 1) (F3.st.has _ (.head _)) hr' (by omega) <| C _ _ _ _ _ _ (R.less (by omega)) F3.st.keep (hD' _ (at_mem hlt')) (hD' _ (at_mem hr')) fun t'' => wpAny_truthy_bool ?_
          have F4 := F3.toks t''
          split
          · rename_i hn
            have hn' : ¬ key (at' its' (2 * k + 1)) < key (at' its' (2 * k + 1 + 1)) := by simpa only [Bool.not_eq_true', decide_eq_false_iff_not] using hn
            refine isTrue_and_nil ?_
            rw [if_pos rfl]
            refine wpAny_execs_cons <| wpAny_Assign_Name <| ldF F4 rfl <| stF F4 fun s5 F5 => wpAny_execs_nil ⟨rfl, u5, ?_⟩
            have e : lesser key its' (2 * k + 1) = 2 * k + 1 + 1 := by unfold lesser; rw [if_pos ⟨hr', hn'⟩]
            rw [e]
            exact F5.weaken (by walk_at "cov")
          · rename_i hn
            have hn' : key (at' its' (2 * k + 1)) < key (at' its' (2 * k + 1 + 1)) := by simpa only [Bool.not_eq_true', decide_eq_false_iff_not, Classical.not_not] using hn
            rw [if_neg Bool.false_ne_true]
            refine wpAny_execs_nil ⟨rfl, t', ?_⟩
            have e : lesser key its' (2 * k + 1) = 2 * k + 1 := by unfold lesser; rw [if_neg fun q => q.2 hn']
            rw [e]
            exact F4.weaken (by walk_at "cov")
        · rename_i hr
          have hr' : ¬ 2 * k + 1 + 1 < its'.length := by simp only [decide_eq_true_eq] at hr; omega
          rw [if_neg Bool.false_ne_true]
          refine wpAny_execs_nil ⟨rfl, t', ?_⟩
          have e : lesser key its' (2 * k + 1) = 2 * k + 1 := by unfold lesser; rw [if_neg fun q => hr' q.1]
          rw [e]
          exact F3.weaken (by walk_at "cov")
      · rintro s4 ⟨t4, F4⟩
        refine wpAny_execs_cons <| wpAny_Assign_Subscript <| Subscript_ <| ldF F4 rfl <| ldF F4 rfl <| subN (F4.st.has _ (.head _)) hc2 (by omega) <| ldF F4 rfl <| ldF F4 rfl <| setF F4 (by walk_at "up") (by omega) (by omega) (by omega) fun s5 F5 => ?_
        refine wpAny_execs_cons (wpAny_Assign_Name (ldF F5 rfl (stF F5 fun s6 F6 => ?_)))
        refine wpAny_execs_cons (wpAny_Assign_Name (wpAny_BinOp (wpAny_BinOp (constI fun _ _ => ldF (F6.toks _) rfl (mulI fun _ _ => constI fun _ _ => addI fun u7 t7 => stF (F6.toks t7) fun s7 F7 => ?_)))))
        refine wpAny_execs_nil ⟨its.length - lesser key its' (2 * k + 1), by omega, its'.set k (at' its' (lesser key its' (2 * k + 1))), lesser key its' (2 * k + 1), t4, u7, rfl, by omega, by simpa using hl, ?_, ?_, ?_⟩
        · intro v hv
          rcases List.mem_or_eq_of_mem_set hv with h | h
          · exact hD' v h
          · rw [h]; exact hD' _ (at_mem hc2)
        · rw [← he]
          conv => rhs; unfold sway
          rw [dif_pos hlt']
        · exact F7.weaken (by walk_at "cov")
    · rename_i hgt
      have hlt : ¬ 2 * k + 1 < its.length := by simpa only [decide_eq_true_eq, Int.ofNat_lt] using hgt
      refine ⟨rfl, its', k, t, hk, hl, hD', ?_, F2.weaken (by walk_at "cov")⟩
      rw [← he]
      conv => rhs; unfold sway
      rw [dif_neg (by omega)]
  · rintro s5 ⟨its', k, t, hk, hl, hD', he, F5⟩
    refine wpAny_execs_cons (wpAny_Assign_Subscript (ldF F5 rfl (ldF F5 rfl (ldF F5 rfl (setF F5 (by walk_at "up") (by omega) (by omega) (by omega) fun s6 F6 => ?_)))))
    refine wpAny_execs_cons <| exprN <| callD F6 (by decide) fun fb hfb => spliced_more <| ldF F6 rfl <| spliced_more <| ldF F6 rfl <| spliced_more <| ldF F6 rfl <| spliced_none ⟨F6.st.keep, ?_⟩
    obtain ⟨G', S', k', back⟩ := F6.call (Y := [(a, _)]) (X := [])
    refine siftdown_c hfb (R.less (by omega)) S' (C.mono k') ?_ ?_ ?_ fun s7 S7 => ⟨rfl, wpAny_execs_nil (h s7 ?_)⟩
    · intro v hv
      rcases List.mem_or_eq_of_mem_set hv with h | h
      · exact hD' v h
      · rw [h]; exact hD _ (at_mem hp)
    · simp; omega
    · simp; omega
    · have e1 : k = (sway key ps its).1 := congrArg Prod.fst he
      have e2 : its' = (sway key ps its).2 := congrArg Prod.snd he
      have := (back _ _ S7).st
      simp only [Int.toNat_natCast, List.append_nil] at this
      rw [at_set_self (by omega), e1, e2] at this
      exact this
end Mine

namespace Mine
local macro_rules | `(tactic| walk_at "up") => `(tactic| first | exact Up.head | exact Up.tail Up.head | exact Up.tail (Up.tail Up.head) | exact Up.tail (Up.tail (Up.tail Up.head)))
local macro_rules | `(tactic| walk_at "cov") => `(tactic| repeat (first | exact cov_nil | refine cov_cons rfl ?_))

section
variable {prog : Program} {w : World} {A : Around} {E : Value → Shared → Prop} {s : Shared} {P : Par} {G : Heap} {a fa : Addr} {n : Nat} {its : List Value} {key : Value → Nat} {D : Value → Prop} {Q : Value → Shared → Prop}

set_option maxHeartbeats 2000000 in
theorem heappush_c {x : Value} (hfa : P.mg "heappush" = some (.ref fa)) (R : Room A 6) (S : St P G [(a, listOf its.toArray n)] s) (C : Cmp prog w G key D) (hD : ∀ v ∈ its, D v) (hx : D x) (hlen : its.length ≤ 900000)
    (h : ∀ s', St P G [(a, listOf (sdown key x 0 its.length (its ++ [x])).toArray (n + 1))] s' → Q .none s') :
    wpAny (model prog w) A (call (.ref fa) [.ref a, x]) Q E s := by
  refine enterD (binds := [("heap", .ref a), ("item", x)]) 0 rfl hfa R S (fun _ _ _ => rfl) (locs rfl) (fun L cd A' s' R F => ?_)
  refine wpAny_execs_cons <| exprN <| appF F rfl (F.st.has _ (.head _)) <| ldF F rfl ⟨G, _, _, _, its, n, F, by walk_at "up", by omega, fun s1 F1 => ⟨rfl, ?_⟩⟩
  refine wpAny_execs_cons <| exprN <| callD F1 (by decide) fun fb hfb => spliced_more <| ldF F1 rfl <| spliced_more <| constI fun u0 t0 => spliced_more <| wpAny_BinOp <|
    callB (F1.toks t0) bi_len (by decide) <| spliced_more <| ldF (F1.toks t0) rfl <| spliced_none <| lenL (F1.st.has _ (.head _)) (by simp; omega) fun _ _ => constI fun _ _ => subI fun u1 t1 => spliced_none ⟨F1.st.keep, ?_⟩
  have e : ((its ++ [x]).length : Int) - 1 = (its.length : Nat) := by simp
  rw [e]
  have F2 := F1.toks t1
  obtain ⟨G', S', k', back⟩ := F2.call (Y := [(a, _)]) (X := [])
  refine siftdown_c (st := 0) hfb (R.less (by omega)) S' (C.mono k') ?_ ?_ ?_ fun s7 S7 => ⟨rfl, wpAny_execs_nil (h s7 ?_)⟩
  · intro v hv
    rcases List.mem_append.mp hv with q | q
    · exact hD v q
    · simp only [List.mem_singleton] at q; subst q; exact hx
  · simp
  · simp; omega
  · have := (back _ _ S7).st
    have e2 : at' (its ++ [x]) its.length = x := by simp [at', List.getD]
    rw [e2] at this
    exact this

set_option maxHeartbeats 2000000 in
theorem heapreplace_c {x : Value} (hfa : P.mg "heapreplace" = some (.ref fa)) (R : Room A 7) (S : St P G [(a, listOf its.toArray n)] s) (C : Cmp prog w G key D) (hD : ∀ v ∈ its, D v) (hx : D x) (h0 : 0 < its.length) (hlen : its.length ≤ 900000)
    (h : ∀ s', St P G [(a, listOf (sup key 0 (its.set 0 x)).toArray n)] s' → Q (at' its 0) s') :
    wpAny (model prog w) A (call (.ref fa) [.ref a, x]) Q E s := by
  refine enterD (binds := [("heap", .ref a), ("item", x)]) 2 rfl hfa R S (fun _ _ _ => rfl) (locs rfl) (fun L cd A' s' R F => ?_)
  refine wpAny_execs_cons <| wpAny_Assign_Name <| Subscript_ <| ldF F rfl <| constI fun _ t0 => subN (j := 0) (F.st.has _ (.head _)) h0 (by omega) <| stF (F.toks t0) fun s1 F1 => ?_
  refine wpAny_execs_cons <| wpAny_Assign_Subscript <| ldF F1 rfl <| ldF F1 rfl <| constI fun _ t1 => setF (F1.toks t1) (by walk_at "up") (by omega) (by omega) (by omega) fun s2 F2 => ?_
  refine wpAny_execs_cons <| exprN <| callD F2 (by decide) fun fb hfb => spliced_more <| ldF F2 rfl <| spliced_more <| constI fun u3 t3 => spliced_none ⟨F2.st.keep, ?_⟩
  have F3 := F2.toks t3
  obtain ⟨G', S', k', back⟩ := F3.call (Y := [(a, _)]) (X := [])
  refine siftup_c (ps := 0) hfb (R.less (by omega)) S' (C.mono k') ?_ ?_ ?_ fun s4 S4 => ⟨rfl, ?_⟩
  · intro v hv
    rcases List.mem_or_eq_of_mem_set hv with q | q
    · exact hD v q
    · rw [q]; exact hx
  · simpa using h0
  · simp; omega
  · have F4 := back _ _ S4
    exact wpAny_execs_cons <| wpAny_Return_some <| ldF F4 rfl <| h s4 F4.st

set_option maxHeartbeats 2000000 in
/-- heappop: one item alone -/
theorem heappop1_c {x : Value} (hfa : P.mg "heappop" = some (.ref fa)) (R : Room A 7) (S : St P G [(a, listOf [x].toArray n)] s)
    (h : ∀ s', St P G [(a, listOf ([] : List Value).toArray (n + 1))] s' → Q x s') :
    wpAny (model prog w) A (call (.ref fa) [.ref a]) Q E s := by
  refine enterD (binds := [("heap", .ref a)]) 1 rfl hfa R S (fun _ _ _ => rfl) (locs rfl) (fun L cd A' s' R F => ?_)
  refine wpAny_execs_cons <| wpAny_Assign_Name <| popF (its := []) F rfl (by walk_at "up") (by simp) fun s1 F1 => stF F1 fun s2 F2 => ?_
  refine wpAny_execs_cons <| wpAny_If <| isTrue_plain <| ldF F2 rfl <| truthL (its := []) (F2.st.has _ (.head _)) (by simp) fun t3 => ?_
  have F3 := F2.toks t3
  rw [show (!([] : List Value).isEmpty) = false from rfl, if_neg Bool.false_ne_true]
  exact wpAny_execs_nil <| wpAny_execs_cons <| wpAny_Return_some <| ldF F3 rfl <| h _ F3.st

set_option maxHeartbeats 2000000 in
theorem heappop_c {y : Value} (hfa : P.mg "heappop" = some (.ref fa)) (R : Room A 7) (S : St P G [(a, listOf (its ++ [y]).toArray n)] s) (C : Cmp prog w G key D) (hD : ∀ v ∈ its, D v) (hy : D y) (h0 : 0 < its.length) (hlen : its.length ≤ 900000)
    (h : ∀ s', St P G [(a, listOf (sup key 0 (its.set 0 y)).toArray (n + 1))] s' → Q (at' its 0) s') :
    wpAny (model prog w) A (call (.ref fa) [.ref a]) Q E s := by
  refine enterD (binds := [("heap", .ref a)]) 1 rfl hfa R S (fun _ _ _ => rfl) (locs rfl) (fun L cd A' s' R F => ?_)
  refine wpAny_execs_cons <| wpAny_Assign_Name <| popF F rfl (by walk_at "up") (by omega) fun s1 F1 => stF F1 fun s2 F2 => ?_
  refine wpAny_execs_cons <| wpAny_If <| isTrue_plain <| ldF F2 rfl <| truthL (F2.st.has _ (.head _)) (by omega) fun t3 => ?_
  have F3 := F2.toks t3
  have e : (!its.isEmpty) = true := by cases its with | nil => simp at h0 | cons _ _ => rfl
  rw [e, if_pos rfl]
  refine wpAny_execs_cons <| wpAny_Assign_Name <| Subscript_ <| ldF F3 rfl <| constI fun _ t0 => subN (j := 0) (F3.st.has _ (.head _)) h0 (by omega) <| stF (F3.toks t0) fun s4 F4 => ?_
  refine wpAny_execs_cons <| wpAny_Assign_Subscript <| ldF F4 rfl <| ldF F4 rfl <| constI fun _ t1 => setF (F4.toks t1) (by walk_at "up") (by omega) (by omega) (by omega) fun s5 F5 => ?_
  refine wpAny_execs_cons <| exprN <| callD F5 (by decide) fun fb hfb => spliced_more <| ldF F5 rfl <| spliced_more <| constI fun u6 t6 => spliced_none ⟨F5.st.keep, ?_⟩
  have F6 := F5.toks t6
  obtain ⟨G', S', k', back⟩ := F6.call (Y := [(a, _)]) (X := [])
  refine siftup_c (ps := 0) hfb (R.less (by omega)) S' (C.mono k') ?_ ?_ ?_ fun s7 S7 => ⟨rfl, ?_⟩
  · intro v hv
    rcases List.mem_or_eq_of_mem_set hv with q | q
    · exact hD v q
    · rw [q]; exact hy
  · simpa using h0
  · simp; omega
  · have F7 := back _ _ S7
    exact wpAny_execs_cons <| wpAny_Return_some <| ldF F7 rfl <| h s7 F7.st
end
end Mine

namespace Mine
local macro_rules | `(tactic| walk_at "up") => `(tactic| first | exact Up.head | exact Up.tail Up.head | exact Up.tail (Up.tail Up.head) | exact Up.tail (Up.tail (Up.tail Up.head)))
local macro_rules | `(tactic| walk_at "cov") => `(tactic| repeat (first | exact cov_nil | refine cov_cons rfl ?_))

section
variable {prog : Program} {w : World} {A : Around} {E : Value → Shared → Prop} {s : Shared} {P : Par} {G : Heap} {a fa : Addr} {n : Nat} {its : List Value} {key : Value → Nat} {D : Value → Prop} {Q : Value → Shared → Prop}

set_option maxHeartbeats 2000000 in
theorem heapify_c (hfa : P.mg "heapify" = some (.ref fa)) (R : Room A 7) (S : St P G [(a, listOf its.toArray n)] s) (C : Cmp prog w G key D) (hD : ∀ v ∈ its, D v) (hlen : its.length ≤ 900000)
    (h : ∀ s', St P G [(a, listOf (hfy key (its.length / 2) its).toArray n)] s' → Q .none s') :
    wpAny (model prog w) A (call (.ref fa) [.ref a]) Q E s := by
  refine enterD (binds := [("x", .ref a)]) 3 rfl hfa R S (fun _ _ _ => rfl) (locs rfl) (fun L cd A' s' R F => ?_)
  refine wpAny_execs_cons <| wpAny_Assign_Name <| callB F bi_len (by decide) <| spliced_more <| ldF F rfl <| spliced_none <| lenL (F.st.has _ (.head _)) (by omega) fun u0 t0 => stF (F.toks t0) fun s1 F1 => ?_
  refine wpAny_execs_cons <| wpAny_For <| callT F1 bi_reversed (by decide) <| spliced_more <| callT F1 bi_range (by decide) <| spliced_more <| wpAny_BinOp <| ldF F1 rfl <| constI fun _ _ => fdivI (by decide) fun u2 t2 => spliced_none <| rangeN fun ua va t3 => spliced_none ?_
  have F2 := (F1.alloc (rangeObj ((its.length : Int) / 2) u2 ua va)).toks t3
  refine call_reversed_range (F2.st.has _ (.head _)) (by omega) (by omega) ?_
  have F3 := (F2.alloc (rit ((its.length : Int) / 2 - 1) ((its.length : Int) / 2) (-1)))
  refine wpAny_pyIter_rangeiter (F3.st.has _ (.head _)) ?_
  have F4 := ((F3.perm (List.Perm.swap _ _ _)).drop.weaken (ms' := ([("x", .ref a)] : List (Str × Value))) (by walk_at "cov"))
  refine forNameF (n := its.length / 2) (iter_range (x0 := (its.length : Int) / 2 - 1) (c := -1) R.handled) (by show rit _ _ _ = rit _ _ _; simp) F4
    (fun i G' ms' X' => ∃ its' : List Value, its'.length = its.length ∧ (∀ v ∈ its', D v) ∧ G' = G ∧ ms' = ([("x", .ref a)] : List (Str × Value)) ∧ X' = [(a, listOf its'.toArray n)] ∧ hfy key (its.length / 2 - i) its' = hfy key (its.length / 2) its)
    ⟨its, rfl, hD, rfl, rfl, rfl, rfl⟩ ?_ ?_
  · rintro i v G' ms' X' s5 o' hi ⟨t5, rfl⟩ - ⟨its', hl, hD', rfl, rfl, rfl, he⟩ hIt F5
    have e : (its.length : Int) / 2 - 1 + (i : Int) * (-1) = ((its.length / 2 - i - 1 : Nat) : Int) := by omega
    rw [e] at F5
    refine wpAny_execs_cons <| exprN <| callD F5 (by decide) fun fb hfb => spliced_more <| ldF F5 rfl <| spliced_more <| ldF F5 rfl <| spliced_none ⟨F5.st.keep, ?_⟩
    obtain ⟨G₂, S', k', back⟩ := (F5.perm (List.Perm.swap _ _ _)).call (Y := [(a, _)])
    refine siftup_c hfb (R.less (by omega)) S' (C.mono k') hD' (by omega) (by omega) fun s6 S6 => ⟨rfl, wpAny_execs_nil ?_⟩
    refine ⟨_, [("x", .ref a)], _, fun _ _ e => e, ⟨sup key (its.length / 2 - i - 1) its', ?_, ?_, rfl, rfl, rfl, ?_⟩, ((back _ _ S6).perm (List.Perm.swap _ _ _)).weaken (by walk_at "cov")⟩
    · rw [sup_length (by omega), hl]
    · intro v hv; exact hD' v ((sup_perm (by omega)).mem_iff.mp hv)
    · rw [← he]
      have e2 : its.length / 2 - i = (its.length / 2 - i - 1) + 1 := by omega
      have e3 : its.length / 2 - (i + 1) = its.length / 2 - i - 1 := by omega
      rw [e3]
      conv => rhs; rw [e2]; unfold hfy
  · rintro G' ms' X' s5 - ⟨its', hl, hD', rfl, rfl, rfl, he⟩ F5
    rw [Nat.sub_self] at he
    refine wpAny_execs_nil (h s5 ?_)
    rw [← he]
    exact F5.st
end
end Mine

namespace Mine
open PySem.MeetsSeq

/-- a value stands for a number: [size, number] -/
noncomputable def RepN (G : Heap) (v : Value) (n : Int) : Prop := ∃ b t1 t2 k, v = .ref b ∧ G.get? b = some (listOf [.int (n.natAbs : Int) t1, .int n t2].toArray k)
/-- .. [length, word, sign] -/
noncomputable def RepW (G : Heap) (v : Value) (n : Int) : Prop := ∃ b t1 t2 t3 k, v = .ref b ∧ G.get? b = some (listOf [.int ((word n.natAbs).length : Int) t1, .bytes (word n.natAbs).toArray t2, .int (sgn n) t3].toArray k)

theorem RepN.mono {G G' : Heap} (k : Sub G G') : ∀ v n, RepN G v n → RepN G' v n := fun v n ⟨b, t1, t2, j, e, h⟩ => ⟨b, t1, t2, j, e, k _ _ h⟩
theorem RepW.mono {G G' : Heap} (k : Sub G G') : ∀ v n, RepW G v n → RepW G' v n := fun v n ⟨b, t1, t2, t3, j, e, h⟩ => ⟨b, t1, t2, t3, j, e, k _ _ h⟩
theorem funN (G : Heap) : Fun (RepN G) := ⟨fun v n m ⟨b, t1, t2, k, e, h⟩ ⟨b', t1', t2', k', e', h'⟩ => by
  subst e
  cases e'
  rw [h] at h'
  simp at h'
  exact h'.1.2.1⟩
theorem funW (G : Heap) : Fun (RepW G) := ⟨fun v n m ⟨b, t1, t2, t3, k, e, h⟩ ⟨b', t1', t2', t3', k', e', h'⟩ => by
  subst e
  cases e'
  rw [h] at h'
  simp at h'
  have hw := word_inj h'.1.2.1.1
  have hs : sgn n = sgn m := h'.1.2.2.1
  unfold sgn at hs
  split at hs <;> split at hs <;> omega⟩

abbrev sel2 {α : Type} (a b : α) : Nat → α | 0 => a | _ => b
abbrev sel3 {α : Type} (a b c : α) : Nat → α | 0 => a | 1 => b | _ => c

theorem cmpN {prog : Program} {w : World} {G : Heap} : Cmp prog w G (keyR (RepN G)) (fun v => ∃ n, RepN G v n) := by
  rintro A x y Q E s R K ⟨n, hn⟩ ⟨m, hm⟩ h
  rw [keyR_eq (funN G) hn, keyR_eq (funN G) hm] at h
  obtain ⟨b, t1, t2, k, rfl, ho⟩ := hn
  obtain ⟨b', t1', t2', k', rfl, ho'⟩ := hm
  refine ltL (e := sel2 ((n.natAbs : Int) == (m.natAbs : Int)) (n == m)) (c := sel2 (decide ((n.natAbs : Int) < (m.natAbs : Int))) (decide (n < m))) (by have := R.units; omega) (K _ _ ho) (K _ _ ho') rfl ?_ ?_ ?_
  · intro j h1 h2
    rcases j with _ | _ | j
    · exact EqGives.int _ _ _ _
    · exact EqGives.int _ _ _ _
    · exact absurd h1 (by simp only [List.length_cons, List.length_nil]; omega)
  · intro j h1 h2
    rcases j with _ | _ | j
    · exact LtGives.int _ _ _ _
    · exact LtGives.int _ _ _ _
    · exact absurd h1 (by simp only [List.length_cons, List.length_nil]; omega)
  · have e : lexB (sel2 ((n.natAbs : Int) == (m.natAbs : Int)) (n == m)) (sel2 (decide ((n.natAbs : Int) < (m.natAbs : Int))) (decide (n < m))) (List.range 2) = decide (rank n < rank m) := by
      rw [← num_rank]
      show (if ((n.natAbs : Int) == (m.natAbs : Int)) = true then (if (n == m) = true then false else decide (n < m)) else decide ((n.natAbs : Int) < (m.natAbs : Int))) = _
      simp only [beq_iff_eq, Int.ofNat_lt, Int.ofNat_inj]
    have := h s.toks
    rw [← e] at this
    exact this

theorem ord_eq : ∀ a b : List UInt8, Builtin.Bytes.order a b = ordN a b
  | [], [] | [], _ :: _ | _ :: _, [] => rfl
  | x :: a, y :: b => by simp only [Builtin.Bytes.order, ordN, ord_eq a b]

theorem cmpW {prog : Program} {w : World} {G : Heap} : Cmp prog w G (keyR (RepW G)) (fun v => ∃ n, RepW G v n) := by
  rintro A x y Q E s R K ⟨n, hn⟩ ⟨m, hm⟩ h
  rw [keyR_eq (funW G) hn, keyR_eq (funW G) hm] at h
  obtain ⟨b, t1, t2, t3, k, rfl, ho⟩ := hn
  obtain ⟨b', t1', t2', t3', k', rfl, ho'⟩ := hm
  refine ltL (e := sel3 (((word n.natAbs).length : Int) == ((word m.natAbs).length : Int)) ((word n.natAbs).toArray.toList == (word m.natAbs).toArray.toList) (sgn n == sgn m))
    (c := sel3 (decide (((word n.natAbs).length : Int) < ((word m.natAbs).length : Int))) (Builtin.Bytes.order (word n.natAbs).toArray.toList (word m.natAbs).toArray.toList == .lt) (decide (sgn n < sgn m))) (by have := R.units; omega) (K _ _ ho) (K _ _ ho') rfl ?_ ?_ ?_
  · intro j h1 h2
    rcases j with _ | _ | _ | j
    · exact EqGives.int _ _ _ _
    · exact EqGives_bytes _ _ _ _
    · exact EqGives.int _ _ _ _
    · exact absurd h1 (by simp only [List.length_cons, List.length_nil]; omega)
  · intro j h1 h2
    rcases j with _ | _ | _ | j
    · exact LtGives.int _ _ _ _
    · exact LtGives.bytes _ _ _ _
    · exact LtGives.int _ _ _ _
    · exact absurd h1 (by simp only [List.length_cons, List.length_nil]; omega)
  · have e : lexB (sel3 (((word n.natAbs).length : Int) == ((word m.natAbs).length : Int)) ((word n.natAbs).toArray.toList == (word m.natAbs).toArray.toList) (sgn n == sgn m))
        (sel3 (decide (((word n.natAbs).length : Int) < ((word m.natAbs).length : Int))) (Builtin.Bytes.order (word n.natAbs).toArray.toList (word m.natAbs).toArray.toList == .lt) (decide (sgn n < sgn m))) (List.range 3) = decide (rank n < rank m) := by
      rw [← word_rank]
      show (if (((word n.natAbs).length : Int) == ((word m.natAbs).length : Int)) = true then (if ((word n.natAbs) == (word m.natAbs)) = true then (if (sgn n == sgn m) = true then false else decide (sgn n < sgn m)) else (Builtin.Bytes.order (word n.natAbs) (word m.natAbs) == .lt)) else decide (((word n.natAbs).length : Int) < ((word m.natAbs).length : Int))) = _
      simp only [beq_iff_eq, Int.ofNat_lt, Int.ofNat_inj, ord_eq]
      split
      · split
        · split
          · rename_i q; rw [q]; simp
          · rfl
        · rfl
      · rfl
    have := h s.toks
    rw [← e] at this
    exact this

section
variable {prog : Program} {w : World} {A : Around} {E : Value → Shared → Prop} {s : Shared} {P : Par} {G : Heap} {a fa : Addr} {k : Nat} {its : List Value} {ns : List Int} {Q : Value → Shared → Prop} {Rep : Value → Int → Prop}

/-- what the heap's functions ask of the things they hold -/
structure Kind (prog : Program) (w : World) (G : Heap) (Rep : Value → Int → Prop) : Prop where
  uniq : Fun Rep
  cmp : Cmp prog w G (keyR Rep) (fun v => ∃ n, Rep v n)
theorem kindN {G : Heap} : Kind prog w G (RepN G) := ⟨funN G, cmpN⟩
theorem kindW {G : Heap} : Kind prog w G (RepW G) := ⟨funW G, cmpW⟩
theorem Kind.mono {G G' : Heap} (K : Kind prog w G Rep) (k : Sub G G') : Kind prog w G' Rep := ⟨K.uniq, K.cmp.mono k⟩

theorem push_n {x : Value} {m : Int} (hfa : P.mg "heappush" = some (.ref fa)) (R : Room A 6) (K : Kind prog w G Rep) (S : St P G [(a, listOf its.toArray k)] s) (H : HeapOf Rep its ns) (hx : Rep x m) (hlen : its.length ≤ 900000)
    (h : ∀ s' its' k', HeapOf Rep its' (m :: ns) → St P G [(a, listOf its'.toArray k')] s' → Q .none s') : wpAny (model prog w) A (call (.ref fa) [.ref a, x]) Q E s :=
  heappush_c hfa R S K.cmp H.all ⟨m, hx⟩ hlen fun s' S' => h s' _ _ (H.push K.uniq hx) S'

theorem replace_n {x : Value} {j : Int} (hfa : P.mg "heapreplace" = some (.ref fa)) (R : Room A 7) (K : Kind prog w G Rep) (S : St P G [(a, listOf its.toArray k)] s) (H : HeapOf Rep its ns) (hx : Rep x j) (h0 : 0 < its.length) (hlen : its.length ≤ 900000)
    (h : ∀ s' its' k' m rest, Rep (at' its 0) m → ns.Perm (m :: rest) → (∀ i ∈ ns, rank m ≤ rank i) → HeapOf Rep its' (j :: rest) → St P G [(a, listOf its'.toArray k')] s' → Q (at' its 0) s') : wpAny (model prog w) A (call (.ref fa) [.ref a, x]) Q E s := by
  obtain ⟨m, rest, h1, h2, h3, h4⟩ := H.replace K.uniq hx h0
  exact heapreplace_c hfa R S K.cmp H.all ⟨j, hx⟩ h0 hlen fun s' S' => h s' _ _ m rest h1 h2 h3 h4 S'

theorem pop_n (hfa : P.mg "heappop" = some (.ref fa)) (R : Room A 7) (K : Kind prog w G Rep) (S : St P G [(a, listOf its.toArray k)] s) (H : HeapOf Rep its ns) (h0 : 0 < its.length) (hlen : its.length ≤ 900000)
    (h : ∀ s' v its' k' m rest, Rep v m → ns.Perm (m :: rest) → (∀ i ∈ ns, rank m ≤ rank i) → HeapOf Rep its' rest → St P G [(a, listOf its'.toArray k')] s' → Q v s') : wpAny (model prog w) A (call (.ref fa) [.ref a]) Q E s := by
  obtain ⟨r, y, rfl⟩ : ∃ r y, its = r ++ [y] := ⟨its.dropLast, its.getLast (by intro e; subst e; simp at h0), (List.dropLast_concat_getLast _).symm⟩
  by_cases hr : r = []
  · subst hr
    obtain ⟨m, h1, rfl⟩ := H.pop1 K.uniq
    exact heappop1_c hfa R S fun s' S' => h s' _ [] _ m [] h1 (.refl _) (by simp) HeapOf.nil S'
  · have hr0 : 0 < r.length := List.length_pos_iff.mpr hr
    obtain ⟨m, rest, h1, h2, h3, h4⟩ := H.pop K.uniq hr0
    refine heappop_c hfa R S K.cmp (fun v hv => H.all v (List.mem_append_left _ hv)) (H.all y (List.mem_append_right _ (.head _))) hr0 (by simp at hlen; omega) fun s' S' => h s' _ _ _ m rest h1 h2 h3 h4 S'

theorem heapify_n (hfa : P.mg "heapify" = some (.ref fa)) (R : Room A 7) (K : Kind prog w G Rep) (S : St P G [(a, listOf its.toArray k)] s) (hall : ∀ v ∈ its, ∃ n, Rep v n) (hlen : its.length ≤ 900000)
    (h : ∀ s' its' k', HeapOf Rep its' (its.map (valR Rep)) → St P G [(a, listOf its'.toArray k')] s' → Q .none s') : wpAny (model prog w) A (call (.ref fa) [.ref a]) Q E s :=
  heapify_c hfa R S K.cmp hall hlen fun s' S' => h s' _ _ (HeapOf.heapify hall) S'
end
end Mine

namespace Mine
local macro_rules | `(tactic| walk_at "up") => `(tactic| first | exact Up.head | exact Up.tail Up.head | exact Up.tail (Up.tail Up.head) | exact Up.tail (Up.tail (Up.tail Up.head)))
local macro_rules | `(tactic| walk_at "cov") => `(tactic| repeat (first | exact cov_nil | refine cov_cons rfl ?_))

section
variable {prog : Program} {w : World} {A : Around} {E : Value → Shared → Prop} {s : Shared} {P : Par} {G : Heap} {X : List (Addr × Obj)} {a fa : Addr} {n : Nat} {its : List Value} {Q : Value → Shared → Prop}

set_option maxHeartbeats 2000000 in
theorem child_c {m d : Int} {t u : Tok} (hfa : P.mg "_law_child" = some (.ref fa)) (R : Room A 2) (S : St P G X s)
    (h : ∀ s' t, St P G X s' → Q (.int (child m d) t) s') : wpAny (model prog w) A (call (.ref fa) [.int m t, .int d u]) Q E s := by
  refine enterD (binds := [("number", .int m t), ("letter", .int d u)]) 10 rfl hfa R S (fun _ _ _ => rfl) (locs rfl) (fun L cd A' s' R F => ?_)
  refine wpAny_execs_cons <| wpAny_If <| wpAny_isTrue_Compare1 <| ldF F rfl <| constI fun _ _ => gt_int <| wpAny_truthy_bool ?_
  split
  · rename_i q
    have q' : 0 < m := by simpa using q
    refine wpAny_execs_cons <| wpAny_Return_some <| wpAny_BinOp <| wpAny_BinOp <| ldF (F.toks _) rfl <| constI fun _ _ => mulI fun _ t1 => ldF (F.toks t1) rfl <| addI fun u2 t2 => ?_
    have := h _ u2 (F.toks t2).st
    rwa [child, if_pos q'] at this
  · rename_i q
    have q' : ¬ 0 < m := by simpa using q
    refine wpAny_execs_nil <| wpAny_execs_cons <| wpAny_Return_some <| wpAny_BinOp <| wpAny_BinOp <| ldF (F.toks _) rfl <| constI fun _ _ => mulI fun _ t1 => ldF (F.toks t1) rfl <| subI fun u2 t2 => ?_
    have := h _ u2 (F.toks t2).st
    rwa [child, if_neg q'] at this

theorem intsB {r : Nat} {ls : List Int} (h : word r ++ (ls.reverse.map fun n => n.toNat.toUInt8) = word n) (hr : r = 0) : byteArr ls.reverse = (word n).toArray := by
  subst hr
  rw [word_zero, List.nil_append] at h
  unfold byteArr
  rw [h]

set_option maxHeartbeats 2000000 in
theorem word_c {m : Int} {t : Tok} (hfa : P.mg "_law_word" = some (.ref fa)) (R : Room A 2) (S : St P G X s) (hz : (word m.natAbs).length ≤ 100000)
    (h : ∀ s' t, St P G X s' → Q (.bytes (word m.natAbs).toArray t) s') : wpAny (model prog w) A (call (.ref fa) [.int m t]) Q E s := by
  refine enterD (binds := [("number", .int m t)]) 7 rfl hfa R S (fun _ _ _ => rfl) (locs rfl) (fun L cd A' s' R F => ?_)
  refine wpAny_execs_cons <| wpAny_Assign_Name <| List_ <| spliced_none <| newListF F (by simp) fun l s1 F1 => stF F1 fun s2 F2 => ?_
  refine wpAny_execs_cons <| wpAny_Assign_Name <| callB F2 bi_abs (by decide) <| spliced_more <| ldF F2 rfl <| spliced_none <| absI fun u3 t3 => stF (F2.toks t3) fun s3 F3 => ?_
  refine seqF (fun s => ∃ vs ls k, IntsAre vs ls ∧ (∀ i ∈ ls, (0 : Int) ≤ i ∧ i < 256) ∧ byteArr ls.reverse = (word m.natAbs).toArray ∧ ls.length ≤ 100000 ∧ FS P G L [("letters", .ref l)] ((l, listOf (List.toArray vs) k) :: X) s) ?_ ?_
  · refine whileF (fun r s => ∃ vs ls k t, IntsAre vs ls ∧ (∀ i ∈ ls, (0 : Int) ≤ i ∧ i < 256) ∧ word r ++ (ls.reverse.map fun n => n.toNat.toUInt8) = word m.natAbs ∧ FS P G L [("letters", .ref l), ("rest", .int (r : Nat) t)] ((l, listOf (List.toArray vs) k) :: X) s) ?_ m.natAbs
      ⟨[], [], 0, u3, .nil, (fun _ q => nomatch q), by simp, F3.weaken (by walk_at "cov")⟩
    rintro r s4 ⟨vs, ls, k, t4, hi, hr, he, F4⟩
    have hlen : (word r).length + ls.length ≤ 100000 := by have := congrArg List.length he; simp at this; omega
    refine wpAny_isTrue_Compare1 <| ldF F4 rfl <| constI fun _ _ => gt_int <| wpAny_truthy_bool ?_
    split
    · rename_i q
      have q' : 0 < r := by simpa using q
      refine wpAny_execs_cons <| exprN <| appF (F4.toks _) rfl (F4.st.has _ (.head _)) <| wpAny_BinOp <| constI fun _ _ => wpAny_BinOp <| ldF (F4.toks _) rfl <| constI fun _ _ => fmodI (by decide) fun _ _ => addI fun u5 t5 =>
        ⟨G, _, _, _, vs, k, F4.toks t5, by walk_at "up", by have := hi.length; omega, fun s5 F5 => ⟨rfl, ?_⟩⟩
      refine wpAny_execs_cons <| wpAny_Assign_Name <| wpAny_BinOp <| ldF F5 rfl <| constI fun _ _ => fdivI (by decide) fun u6 t6 => stF (F5.toks t6) fun s6 F6 => wpAny_execs_nil ?_
      refine ⟨r / 16, by omega, _, ls ++ [65 + (r : Int) % 16], _, _, hi.append (.cons _ _ .nil), ?_, ?_, F6.weaken (by walk_at "cov")⟩
      · intro i hi'
        rcases List.mem_append.mp hi' with q1 | q1
        · exact hr i q1
        · simp only [List.mem_singleton] at q1; omega
      · rw [← he, word_pos (m := r) (by omega)]
        simp only [List.reverse_append, List.reverse_cons, List.reverse_nil, List.nil_append, List.cons_append, List.map_cons, List.append_assoc]
        have e1 : (65 + (r : Int) % 16).toNat.toUInt8 = UInt8.ofNat (65 + r % 16) := by
          have : (65 + (r : Int) % 16).toNat = 65 + r % 16 := by omega
          rw [this]
        rw [e1]
    · rename_i q
      have q' : r = 0 := by simp at q; omega
      exact ⟨rfl, vs, ls, k, hi, hr, intsB he q', by omega, (F4.toks _).weaken (by walk_at "cov")⟩
  · rintro s4 ⟨vs, ls, k, hi, hr, he, hlen, F4⟩
    have hvl := hi.length
    refine wpAny_execs_cons <| exprN <| revF F4 rfl (by walk_at "up") (by omega) fun s5 F5 => ⟨rfl, ?_⟩
    refine wpAny_execs_cons <| wpAny_Return_some <| callT F5 bi_bytes (by decide) <| spliced_more <| ldF F5 rfl <| spliced_none <| bytesI R.handled F5 (F5.st.has _ (.head _)) hi.reverse (by simpa using hr) (by simp; omega) fun t6 s6 F6 => ?_
    rw [he]
    exact h s6 t6 F6.st.drop

abbrev apL : List UInt8 := [65, 66, 67, 68, 69, 70, 71, 72, 73, 74, 75, 76, 77, 78, 79, 80]
theorem picked_ap : ∀ d : Nat, d < 16 → KBy.picked apL.toArray (some (d : Int)) (some ((d : Int) + 1)) = [UInt8.ofNat (65 + d)].toArray := by decide +kernel

theorem divmodI {i : Int} {t u : Tok} {Q : Value → Shared → Prop} (h : ∀ u v t', Q (.ref s.heap.objs.size) { s with toks := t', heap := s.heap.push { cls := .type "tuple", data := .seq #[.int (i / 16) u, .int (i % 16) v] } }) :
    wpAny (model prog w) A (call (.builtin "divmod") [.int i t, .int 16 u]) Q E s :=
  divmod_int (by decide) (by rw [Int.fdiv_eq_ediv_of_nonneg _ (by decide), Int.fmod_eq_emod_of_nonneg _ (by decide)]; exact h _ _ _) (.inl (PyProof.noPylong_small (by decide)))

set_option maxHeartbeats 2000000 in
theorem int2ap_c {m : Int} {t : Tok} (hfa : P.mg "Int2AP" = some (.ref fa)) (R : Room A 2) (S : St P G X s) (hz : (word m.natAbs).length ≤ 100000)
    (h : ∀ s' t, St P G X s' → Q (.bytes (word m.natAbs).toArray t) s') : wpAny (model prog w) A (call (.ref fa) [.int m t]) Q E s := by
  refine enterD (binds := [("num", .int m t)]) 6 rfl hfa R S (fun _ _ _ => rfl) (locs rfl) (fun L cd A' s' R F => ?_)
  refine wpAny_execs_cons <| wpAny_Assign_Name <| Constant_bytes <| stF (F.toks _) fun s1 F1 => ?_
  refine wpAny_execs_cons <| wpAny_Assign_Name <| Constant_bytes <| stF (F1.toks _) fun s2 F2 => ?_
  refine wpAny_execs_cons <| wpAny_Assign_Name <| callT F2 bi_int (by decide) <| spliced_more <| callB F2 bi_abs (by decide) <| spliced_more <| ldF F2 rfl <| spliced_none <| absI fun u3 t3 => spliced_none <| call_int_int <| stF (F2.toks t3) fun s3 F3 => ?_
  refine seqF (fun s => ∃ t, FS P G L [("val", .bytes (word m.natAbs).toArray t)] X s) ?_ ?_
  · refine whileF (fun r s => ∃ (b : List UInt8) (t t1 t2 : Tok), word r ++ b = word m.natAbs ∧ FS P G L [("num", .int (r : Nat) t), ("val", .bytes b.toArray t1), ("AP", .bytes apL.toArray t2)] X s) ?_ m.natAbs
      ⟨[], u3, _, _, by simp, F3.weaken (by walk_at "cov")⟩
    rintro r s4 ⟨b, t4, t5, t6, he, F4⟩
    have hlen : (word r).length + b.length ≤ 100000 := by have := congrArg List.length he; simp at this; omega
    refine isTrue_plain <| ldF F4 rfl <| truthy_int ?_
    split
    · rename_i q
      have q' : r ≠ 0 := by simpa using q
      refine wpAny_execs_cons <| Assign_Tuple <| callB F4 bi_divmod (by decide) <| spliced_more <| ldF F4 rfl <| spliced_more <| constI fun _ t7 => spliced_none <| divmodI fun u8 v8 t8 => ?_
      have F8 := ((F4.toks t7).alloc { cls := .type "tuple", data := .seq #[.int ((r : Int) / 16) u8, .int ((r : Int) % 16) v8] }).toks t8
      refine unpackT (items := #[.int ((r : Int) / 16) u8, .int ((r : Int) % 16) v8]) R.handled F8 ⟨_, F8.st.has _ (.head _), rfl, _, rfl⟩ rfl rfl fun s9 F9 => ?_
      refine wpAny_assignInOrder_more <| wpAny_assign_Name <| stF F9 fun s10 F10 => wpAny_assignInOrder_more <| wpAny_assign_Name <| stF F10 fun s11 F11 => wpAny_assignInOrder_none ?_
      have F12 := (F11.drop.weaken (ms' := ([("num", .int ((r : Int) / 16) u8), ("mod", .int ((r : Int) % 16) v8), ("val", .bytes b.toArray t5), ("AP", .bytes apL.toArray t6)] : List (Str × Value))) (by walk_at "cov"))
      refine wpAny_execs_cons <| wpAny_Assign_Name <| wpAny_BinOp <| sliceB <| ldF F12 rfl <| wpAny_evalPart_some <| ldF F12 rfl <| wpAny_evalPart_some <| wpAny_BinOp <| ldF F12 rfl <| constI fun _ _ => addI fun u13 t13 =>
        ⟨_, _, some ((r % 16 : Nat) : Int), some (((r % 16 : Nat) : Int) + 1), G, _, X, rfl, by decide, .int _ _, .int _ _, F12.toks t13, fun t14 s14 F14 => ldF F14 rfl <| KBy.add_bytes ?_ fun t15 k15 => stF (F14.toks k15) fun s16 F16 => wpAny_execs_nil ?_⟩
      · rw [picked_ap _ (by omega)]; simp; omega
      · rw [picked_ap _ (by omega)] at F16
        refine ⟨r / 16, by omega, UInt8.ofNat (65 + r % 16) :: b, u8, t15, t6, ?_, ?_⟩
        · rw [← he, word_pos (m := r) (by omega)]; simp
        · have F17 := F16.weaken (ms' := ([("num", .int ((r / 16 : Nat) : Int) u8), ("val", .bytes ([UInt8.ofNat (65 + r % 16)].toArray ++ b.toArray) t15), ("AP", .bytes apL.toArray t6)] : List (Str × Value))) (by walk_at "cov")
          simpa using F17
    · rename_i q
      have q' : r = 0 := by simpa using q
      subst q'
      rw [word_zero, List.nil_append] at he
      rw [← he]
      exact ⟨rfl, _, F4.weaken (by walk_at "cov")⟩
  · rintro s4 ⟨t4, F4⟩
    exact wpAny_execs_cons <| wpAny_Return_some <| ldF F4 rfl <| h s4 t4 F4.st
end
end Mine

namespace Mine
open PySem.MeetsSeq
local macro_rules | `(tactic| walk_at "up") => `(tactic| first | exact Up.head | exact Up.tail Up.head | exact Up.tail (Up.tail Up.head) | exact Up.tail (Up.tail (Up.tail Up.head)))
local macro_rules | `(tactic| walk_at "cov") => `(tactic| repeat (first | exact cov_nil | refine cov_cons rfl ?_))

section
variable {prog : Program} {w : World} {A : Around} {E : Value → Shared → Prop} {s : Shared} {P : Par} {G : Heap} {X : List (Addr × Obj)} {a fa l : Addr} {n : Nat} {its : List Value} {Q : Value → Shared → Prop}

noncomputable def intOf : Value → Int | .int i _ => i | _ => 0
theorem notInI {vs : List Value} {ns : List Int} {i : Int} {t : Tok} {Q : Value → Shared → Prop} (hl : s.heap.get? l = some (listOf vs.toArray n)) (hi : IntsAre vs ns) (h : ∀ b : Bool, (b = false → ns ≠ []) → Q (.bool b) s) :
    wpAny (model prog w) A (compareOp .NotIn (.int i t) (.ref l)) Q E s := by
  refine PySem.SeqInW.notIn_listW (items := vs.toArray) (fun v => intOf v == i) (fun y hy => ?_) (PySem.IsL.isList (n := n) hl) (h _ fun q e => ?_)
  rotate_left
  · subst e; cases hi; simp at q
  have hy' : y ∈ vs := by simpa using hy
  obtain ⟨j, hj⟩ := List.getElem?_of_mem hy'
  obtain ⟨m, u, rfl, _⟩ := hi.at j y hj
  exact EqGives.int _ _ _ _

set_option maxHeartbeats 2000000 in
theorem letters_c {m : Int} {t : Tok} (hfa : P.mg "_law_letters" = some (.ref fa)) (R : Room A 2) (S : St P G X s)
    (h : ∀ s' l vs ls k, IntsAre vs ls → ls ≠ [] → ls.length ≤ 4 → (∀ d ∈ ls, (0 : Int) ≤ d ∧ d < 16) → St P G ((l, listOf (List.toArray vs) k) :: X) s' → Q (.ref l) s') : wpAny (model prog w) A (call (.ref fa) [.int m t]) Q E s := by
  refine enterD (binds := [("head", .int m t)]) 8 rfl hfa R S (fun _ _ _ => rfl) (locs rfl) (fun L cd A' s' R F => ?_)
  refine wpAny_execs_cons <| wpAny_Assign_Name <| wpAny_BinOp <| ldF F rfl <| wpAny_BinOp <| constI fun _ _ => constI fun _ _ => powM fun _ _ => fmodI (by decide) fun u1 t1 => stF (F.toks t1) fun s1 F1 => ?_
  refine wpAny_execs_cons <| wpAny_Assign_Name <| wpAny_BinOp <| wpAny_BinOp <| ldF F1 rfl <| constI fun _ _ => fmodI (by decide) fun _ _ => constI fun _ _ => addI fun u2 t2 => stF (F1.toks t2) fun s2 F2 => ?_
  refine wpAny_execs_cons <| wpAny_Assign_Name <| wpAny_BinOp <| ldF F2 rfl <| constI fun _ _ => fdivI (by decide) fun u3 t3 => stF (F2.toks t3) fun s3 F3 => ?_
  refine wpAny_execs_cons <| wpAny_Assign_Name <| List_ <| spliced_none <| newListF F3 (by simp) fun l s4 F4 => stF F4 fun s5 F5 => ?_
  have hc : m % 1000000 % 4 + 1 = (((m % 1000000 % 4 + 1).toNat : Nat) : Int) := by omega
  generalize hcn : (m % 1000000 % 4 + 1).toNat = cn at hc
  have hcn1 : 1 ≤ cn := by omega
  have hcn4 : cn ≤ 4 := by omega
  rw [hc] at F5
  refine seqF (fun s => ∃ vs ls k, IntsAre vs ls ∧ ls ≠ [] ∧ ls.length ≤ 4 ∧ (∀ d ∈ ls, (0 : Int) ≤ d ∧ d < 16) ∧ FS P G L [("letters", .ref l)] ((l, listOf (List.toArray vs) k) :: X) s) ?_ ?_
  · refine forRangeF (P := P) R.handled <| callT F5 bi_range (by decide) <| spliced_more <| ldF F5 rfl <| spliced_none <| rangeN fun ur vr tr => ?_
    have F6 := ((F5.alloc (rangeObj (cn : Int) u2 ur vr)).toks tr).weaken (ms' := ([("letters", .ref l), ("rest", .int (m % 1000000 / 4) u3)] : List (Str × Value))) (by walk_at "cov")
    refine ⟨cn, _, u2, ur, vr, G, _, _, by omega, rfl, F6, fun i G' ms' X' => G' = G ∧ ∃ vs ls k r t, 0 ≤ r ∧ IntsAre vs ls ∧ (0 < i → ls ≠ []) ∧ ls.length ≤ i ∧ (∀ d ∈ ls, (0 : Int) ≤ d ∧ d < 16) ∧ ms' = ([("letters", .ref l), ("rest", .int r t)] : List (Str × Value)) ∧ X' = (l, listOf (List.toArray vs) k) :: X,
      ⟨rfl, [], [], 0, _, _, ?_, .nil, (by omega), Nat.le_refl _, (fun _ q => nomatch q), rfl, rfl⟩, ?_, ?_⟩
    · omega
    · rintro i t7 G' ms' X' s7 I o' hi - ⟨rfl, vs, ls, k, r, t, hr, hI, hne, hlen, hd, rfl, rfl⟩ F7
      have hvl := hI.length
      refine seqF (fun s => ∃ vs ls k, IntsAre vs ls ∧ ls ≠ [] ∧ ls.length ≤ i + 1 ∧ (∀ d ∈ ls, (0 : Int) ≤ d ∧ d < 16) ∧ FS P G' L [("letters", .ref l), ("rest", .int r t)] ((I, o') :: (l, listOf (List.toArray vs) k) :: X) s) ?_ ?_
      · refine wpAny_If <| wpAny_isTrue_Compare1 <| wpAny_BinOp <| ldF F7 rfl <| constI fun _ _ => fmodI (by decide) fun _ t8 => ldF (F7.toks t8) rfl <| notInI (F7.st.has _ (.tail _ (.head _))) hI fun b hb => wpAny_truthy_bool ?_
        have F8 := F7.toks t8
        cases b with
        | true =>
          rw [if_pos rfl]
          refine wpAny_execs_cons <| exprN <| appF F8 rfl (F8.st.has _ (.tail _ (.head _))) <| wpAny_BinOp <| ldF F8 rfl <| constI fun _ _ => fmodI (by decide) fun u9 t9 =>
            ⟨G', _, _, _, vs, k, F8.toks t9, by walk_at "up", by omega, fun s10 F10 => ⟨rfl, wpAny_execs_nil ⟨rfl, _, ls ++ [r % 16], _, hI.append (.cons _ _ .nil), by simp, by simp; omega, ?_, F10.weaken (by walk_at "cov")⟩⟩⟩
          intro d hd'
          rcases List.mem_append.mp hd' with q | q
          · exact hd d q
          · simp only [List.mem_singleton] at q; omega
        | false =>
          rw [if_neg Bool.false_ne_true]
          exact wpAny_execs_nil ⟨rfl, vs, ls, k, hI, hb rfl, by omega, hd, F8.weaken (by walk_at "cov")⟩
      · rintro s8 ⟨vs', ls', k', hI', hne', hlen', hd', F8⟩
        refine wpAny_execs_cons <| wpAny_Assign_Name <| wpAny_BinOp <| ldF F8 rfl <| constI fun _ _ => fdivI (by decide) fun u9 t9 => stF (F8.toks t9) fun s9 F9 => wpAny_execs_nil ?_
        exact ⟨_, _, _, fun _ _ e => e, ⟨rfl, vs', ls', k', r / 16, u9, by omega, hI', fun _ => hne', hlen', hd', rfl, rfl⟩, F9.weaken (by walk_at "cov")⟩
    · rintro G' ms' X' s7 - ⟨rfl, vs, ls, k, r, t, hr, hI, hne, hlen, hd, rfl, rfl⟩ F7
      exact ⟨rfl, vs, ls, k, hI, hne (by omega), by omega, hd, F7.weaken (by walk_at "cov")⟩
  · rintro s6 ⟨vs, ls, k, hI, hne, hlen, hd, F6⟩
    exact wpAny_execs_cons <| wpAny_Return_some <| ldF F6 rfl <| h s6 l vs ls k hI hne hlen hd F6.st

/-- a start: not nought, of a million at most -/
noncomputable def Small (n : Int) : Prop := n ≠ 0 ∧ n.natAbs ≤ 1000000

set_option maxHeartbeats 4000000 in
theorem starts_c {sa : Addr} {sn : Nat} {svs : List Value} {sns : List Int} (hfa : P.mg "_law_starts" = some (.ref fa)) (R : Room A 2) (S : St P G X s) (hs : G.get? sa = some (listOf svs.toArray sn)) (hsI : IntsAre svs sns) (hsl : svs.length ≤ 1000)
    (h : ∀ s' l vs ns k, IntsAre vs ns → ns ≠ [] → ns.length ≤ svs.length + 1 → (∀ d ∈ ns, Small d) → St P G ((l, listOf (List.toArray vs) k) :: X) s' → Q (.ref l) s') : wpAny (model prog w) A (call (.ref fa) [.ref sa]) Q E s := by
  refine enterD (binds := [("script", .ref sa)]) 9 rfl hfa R S (fun _ _ _ => rfl) (locs rfl) (fun L cd A' s' R F => ?_)
  refine wpAny_execs_cons <| wpAny_Assign_Name <| List_ <| spliced_more <| constI fun u1 t1 => spliced_none <| newListF (F.toks t1) (by simp) fun l s2 F2 => stF F2 fun s3 F3 => ?_
  refine seqF (fun s => ∃ vs ns k, IntsAre vs ns ∧ ns ≠ [] ∧ ns.length ≤ svs.length + 1 ∧ (∀ d ∈ ns, Small d) ∧ FS P G L [("starts", .ref l)] ((l, listOf (List.toArray vs) k) :: X) s) ?_ ?_
  · have F4 := F3.weaken (ms' := ([("starts", .ref l)] : List (Str × Value))) (by walk_at "cov")
    refine forListF (P := P) (its := svs) R.handled <| ldF F3 rfl ⟨G, _, _, rfl, hs, F4, fun i G' ms' X' => G' = G ∧ ∃ vs ns k, IntsAre vs ns ∧ ns ≠ [] ∧ ns.length ≤ i + 1 ∧ (∀ d ∈ ns, Small d) ∧ ms' = ([("starts", .ref l)] : List (Str × Value)) ∧ X' = (l, listOf (List.toArray vs) k) :: X,
      ⟨rfl, _, [37], 0, .cons _ _ .nil, by simp, Nat.le_refl _, by simp [Small], rfl, rfl⟩, ?_, ?_⟩
    · rintro i v G' ms' X' s5 I o' hv - ⟨rfl, vs, ns, k, hI, hne, hlen, hd, rfl, rfl⟩ F5
      obtain ⟨x, tx, rfl, _⟩ := hsI.at i v hv
      have hil : i < svs.length := (List.getElem?_eq_some_iff.mp hv).1
      have hvl := hI.length
      refine wpAny_execs_cons <| wpAny_Assign_Name <| wpAny_BinOp <| ldF F5 rfl <| wpAny_BinOp <| constI fun _ _ => constI fun _ _ => powM fun _ _ => fmodI (by decide) fun u6 t6 => stF (F5.toks t6) fun s6 F6 => ?_
      have hr0 : 0 ≤ x % 1000000 := Int.emod_nonneg _ (by decide)
      have hr1 : x % 1000000 < 1000000 := Int.emod_lt_of_pos _ (by decide)
      generalize x % 1000000 = r at F6 hr0 hr1
      refine seqF (fun s => ∃ sz t, (sz = r % 40 ∨ sz = r) ∧ FS P G' L [("starts", .ref l), ("rest", .int r u6), ("size", .int sz t)] ((I, o') :: (l, listOf (List.toArray vs) k) :: X) s) ?_ ?_
      · refine wpAny_Assign_Name <| wpAny_IfExp <| wpAny_isTrue_Compare1 <| wpAny_BinOp <| wpAny_BinOp <| ldF F6 rfl <| constI fun _ _ => fdivI (by decide) fun _ _ => constI fun _ _ => fmodI (by decide) fun _ _ => constI fun _ t7 => eq_int <| wpAny_truthy_bool ?_
        have F7 := F6.toks t7
        split
        · refine wpAny_BinOp <| ldF F7 rfl <| constI fun _ _ => fmodI (by decide) fun u8 t8 => stF (F7.toks t8) fun s8 F8 => ⟨rfl, _, u8, .inl rfl, F8.weaken (by walk_at "cov")⟩
        · exact ldF F7 rfl <| stF F7 fun s8 F8 => ⟨rfl, _, u6, .inr rfl, F8.weaken (by walk_at "cov")⟩
      · rintro s7 ⟨sz, t7, hsz, F7⟩
        refine wpAny_execs_cons <| exprN <| appF F7 rfl (F7.st.has _ (.tail _ (.head _))) <| wpAny_IfExp <| wpAny_isTrue_Compare1 <| wpAny_BinOp <| ldF F7 rfl <| constI fun _ _ => fmodI (by decide) fun _ _ => constI fun _ t8 => eq_int <| wpAny_truthy_bool ?_
        have F8 := F7.toks t8
        have snoc : ∀ z, Small z → ∀ d ∈ ns ++ [z], Small d := fun z hz d hd' => by
          rcases List.mem_append.mp hd' with q | q
          · exact hd d q
          · simp only [List.mem_singleton] at q; subst q; exact hz
        split
        · rename_i q
          have q' : r % 2 = 0 := by simpa using q
          refine wpAny_BinOp <| ldF F8 rfl <| constI fun _ _ => addI fun u9 t9 => ⟨G', _, _, _, vs, k, F8.toks t9, by walk_at "up", by omega, fun s10 F10 => ⟨rfl, wpAny_execs_nil ⟨_, _, _, fun _ _ e => e,
            ⟨rfl, _, ns ++ [sz + 1], _, hI.append (.cons _ _ .nil), by simp, by simp; omega, snoc _ ⟨by omega, by omega⟩, rfl, rfl⟩, F10.weaken (by walk_at "cov")⟩⟩⟩
        · rename_i q
          have q' : r % 2 ≠ 0 := by simpa using q
          refine wpAny_UnaryOp <| ldF F8 rfl <| negI fun u9 t9 => ⟨G', _, _, _, vs, k, F8.toks t9, by walk_at "up", by omega, fun s10 F10 => ⟨rfl, wpAny_execs_nil ⟨_, _, _, fun _ _ e => e,
            ⟨rfl, _, ns ++ [-sz], _, hI.append (.cons _ _ .nil), by simp, by simp; omega, snoc _ ⟨by omega, by omega⟩, rfl, rfl⟩, F10.weaken (by walk_at "cov")⟩⟩⟩
    · rintro G' ms' X' s5 - ⟨rfl, vs, ns, k, hI, hne, hlen, hd, rfl, rfl⟩ F5
      exact ⟨rfl, vs, ns, k, hI, hne, hlen, hd, F5⟩
  · rintro s6 ⟨vs, ns, k, hI, hne, hlen, hd, F6⟩
    exact wpAny_execs_cons <| wpAny_Return_some <| ldF F6 rfl <| h s6 l vs ns k hI hne hlen hd F6.st
end
end Mine

/-! the plain law of sorting by few comparisons -/
namespace Mine

noncomputable def trun {α : Type} (cmp : Nat → Nat → Bool) : KasT α → α
  | .ret a => a
  | .ask i j k => trun cmp (k (cmp i j))
theorem trun_bind {α β : Type} (cmp : Nat → Nat → Bool) (f : α → KasT β) : ∀ t : KasT α, trun cmp (t.bind f) = trun cmp (f (trun cmp t))
  | .ret _ => rfl
  | .ask i j k => trun_bind cmp f (k (cmp i j))

section
variable (K : Nat → Nat)
abbrev kcmp (i j : Nat) : Bool := decide (K i < K j)
abbrev kp (p : Array Nat) (i : Nat) : Nat := K (p.getD i 0)
noncomputable def NonDec (p : Array Nat) (n : Nat) : Prop := ∀ i j, i ≤ j → j < n → kp K p i ≤ kp K p j
noncomputable def NonInc (p : Array Nat) (n : Nat) : Prop := ∀ i j, i ≤ j → j < n → kp K p j ≤ kp K p i
end
variable {K : Nat → Nat} {p : Array Nat}

theorem getD_get (p : Array Nat) (i : Nat) : p.getD i 0 = (p[i]?).getD 0 := by simp [Array.getD_eq_getD_getElem?]
theorem kp_mirror {i j : Nat} (hj : j ≤ p.size) (k : Nat) : kp K (kas_rev p i j) k = if i ≤ k ∧ k < j then kp K p (i + j - 1 - k) else kp K p k := by
  unfold kp kas_rev
  rw [getD_get, getElem?_mirror_all hj]
  split <;> rw [getD_get]
theorem kp_mirror_equal {i j : Nat} (hj : j ≤ p.size) (he : ∀ k, i ≤ k → k < j → kp K p k = kp K p (j - 1)) (k : Nat) : kp K (kas_rev p i j) k = kp K p k := by
  rw [kp_mirror hj]
  split
  · rename_i h
    rw [he _ (by omega) (by omega), he k h.1 h.2]
  · rfl
theorem kp_bubble {src d : Nat} (hs : src < p.size) (hd : d ≤ src) (k : Nat) : kp K (bubble p src d) k = if k = src - d then kp K p src else if src - d < k ∧ k ≤ src then kp K p (k - 1) else kp K p k := by
  simp only [kp, getD_get]
  rw [getElem?_bubble hs d hd]
  split
  · rfl
  · split <;> rfl

theorem NonDec.succ {n : Nat} (h : NonDec K p n) (h1 : 1 ≤ n) (hn : kp K p (n - 1) ≤ kp K p n) : NonDec K p (n + 1) := by
  intro i j hij hj
  by_cases q : j = n
  · subst q
    by_cases q2 : i = j
    · subst q2; exact Nat.le_refl _
    · exact Nat.le_trans (h i (j - 1) (by omega) (by omega)) hn
  · exact h i j hij (by omega)
theorem NonInc.succ {n : Nat} (h : NonInc K p n) (h1 : 1 ≤ n) (hn : kp K p n ≤ kp K p (n - 1)) : NonInc K p (n + 1) := by
  intro i j hij hj
  by_cases q : j = n
  · subst q
    by_cases q2 : i = j
    · subst q2; exact Nat.le_refl _
    · exact Nat.le_trans hn (h i (j - 1) (by omega) (by omega))
  · exact h i j hij (by omega)

theorem asc_ok : ∀ (f n : Nat), 1 ≤ n → NonDec K p n → n ≤ trun (kcmp K) (kas_asc p f n) ∧ trun (kcmp K) (kas_asc p f n) ≤ n + f ∧ NonDec K p (trun (kcmp K) (kas_asc p f n)) ∧
    (trun (kcmp K) (kas_asc p f n) < n + f → kp K p (trun (kcmp K) (kas_asc p f n)) < kp K p (trun (kcmp K) (kas_asc p f n) - 1))
  | 0, n, h1, h => ⟨Nat.le_refl _, Nat.le_refl _, h, fun q => absurd q (Nat.lt_irrefl _)⟩
  | f + 1, n, h1, h => by
    have e : trun (kcmp K) (kas_asc p (f + 1) n) = if kp K p n < kp K p (n - 1) then n else trun (kcmp K) (kas_asc p f (n + 1)) := by
      show trun (kcmp K) (if kcmp K (p.getD n 0) (p.getD (n - 1) 0) = true then KasT.ret n else kas_asc p f (n + 1)) = _
      by_cases q : kp K p n < kp K p (n - 1)
      · rw [if_pos q, if_pos (decide_eq_true q)]; rfl
      · rw [if_neg q, if_neg (fun z => q (of_decide_eq_true z))]
    rw [e]
    split
    · rename_i q
      exact ⟨Nat.le_refl _, by omega, h, fun _ => q⟩
    · rename_i q
      have := asc_ok f (n + 1) (by omega) (h.succ h1 (by omega))
      exact ⟨by omega, by omega, this.2.2.1, fun r => this.2.2.2 (by omega)⟩

/-- the state of the way down -/
structure Desc' (K : Nat → Nat) (p₀ p : Array Nat) (n q : Nat) : Prop where
  perm : p.toList.Perm p₀.toList
  inc : NonInc K p n
  le : q + 1 ≤ n
  eq : ∀ k, n - (q + 1) ≤ k → k < n → kp K p k = kp K p (n - 1)

theorem Desc'.size {p₀ : Array Nat} {n q : Nat} (d : Desc' K p₀ p n q) : p.size = p₀.size := by have := d.perm.length_eq; simpa using this
theorem rev_perm (p : Array Nat) (i j : Nat) : (kas_rev p i j).toList.Perm p.toList := (mirror_perm p i j _).toList

theorem desc_ok {p₀ : Array Nat} : ∀ (f : Nat) (p : Array Nat) (n q : Nat), Desc' K p₀ p n q → n + f ≤ p₀.size →
    Desc' K p₀ (trun (kcmp K) (kas_desc f p n q)).1 (trun (kcmp K) (kas_desc f p n q)).2.1 (trun (kcmp K) (kas_desc f p n q)).2.2 ∧ n ≤ (trun (kcmp K) (kas_desc f p n q)).2.1 ∧ (trun (kcmp K) (kas_desc f p n q)).2.1 ≤ n + f
  | 0, p, n, q, d, hf => ⟨d, Nat.le_refl _, Nat.le_refl _⟩
  | f + 1, p, n, q, d, hf => by
    have hsz := d.size
    have e : trun (kcmp K) (kas_desc (f + 1) p n q) = if kp K p n < kp K p (n - 1) then (if q > 0 then trun (kcmp K) (kas_desc f (kas_rev p (n - (q + 1)) n) (n + 1) 0) else trun (kcmp K) (kas_desc f p (n + 1) 0))
        else if kp K p (n - 1) < kp K p n then (p, n, q) else trun (kcmp K) (kas_desc f p (n + 1) (q + 1)) := by
      show trun (kcmp K) (if kcmp K (p.getD n 0) (p.getD (n - 1) 0) = true then (if q > 0 then kas_desc f (kas_rev p (n - (q + 1)) n) (n + 1) 0 else kas_desc f p (n + 1) 0)
        else .ask (p.getD (n - 1) 0) (p.getD n 0) fun d => if d = true then .ret (p, n, q) else kas_desc f p (n + 1) (q + 1)) = _
      by_cases c1 : kp K p n < kp K p (n - 1)
      · rw [if_pos c1, if_pos (decide_eq_true c1)]
        split <;> rfl
      · rw [if_neg c1, if_neg (fun z => c1 (of_decide_eq_true z))]
        show trun (kcmp K) (if kcmp K (p.getD (n - 1) 0) (p.getD n 0) = true then .ret (p, n, q) else kas_desc f p (n + 1) (q + 1)) = _
        by_cases c2 : kp K p (n - 1) < kp K p n
        · rw [if_pos c2, if_pos (decide_eq_true c2)]; rfl
        · rw [if_neg c2, if_neg (fun z => c2 (of_decide_eq_true z))]
    rw [e]
    have hq := d.le
    split
    · rename_i c1
      split
      · rename_i c2
        have ke := kp_mirror_equal (K := K) (p := p) (i := n - (q + 1)) (j := n) (by omega) d.eq
        have d' : Desc' K p₀ (kas_rev p (n - (q + 1)) n) (n + 1) 0 := by
          refine ⟨(rev_perm _ _ _).trans d.perm, ?_, by omega, fun k h1 h2 => by rw [show k = n by omega]; rfl⟩
          have : NonInc K (kas_rev p (n - (q + 1)) n) n := fun i j hij hj => by rw [ke, ke]; exact d.inc i j hij hj
          exact this.succ (by omega) (by rw [ke, ke]; omega)
        have := desc_ok f _ (n + 1) 0 d' (by omega)
        exact ⟨this.1, by omega, by omega⟩
      · have d' : Desc' K p₀ p (n + 1) 0 := ⟨d.perm, d.inc.succ (by omega) (by omega), by omega, fun k h1 h2 => by rw [show k = n by omega]; rfl⟩
        have := desc_ok f _ (n + 1) 0 d' (by omega)
        exact ⟨this.1, by omega, by omega⟩
    · rename_i c1
      split
      · exact ⟨d, Nat.le_refl _, by show n ≤ _; omega⟩
      · rename_i c2
        have eqn : kp K p n = kp K p (n - 1) := by omega
        have d' : Desc' K p₀ p (n + 1) (q + 1) := ⟨d.perm, d.inc.succ (by omega) (by omega), by omega, fun k h1 h2 => by
          show kp K p k = kp K p n
          by_cases c : k = n
          · rw [c]
          · rw [eqn]; exact d.eq k (by omega) (by omega)⟩
        have := desc_ok f _ (n + 1) (q + 1) d' (by omega)
        exact ⟨this.1, by omega, by omega⟩

theorem tail3_ok {p₀ : Array Nat} {n nrem : Nat} (hp : p.toList.Perm p₀.toList) (h1 : 1 ≤ n) (hn : n ≤ nrem) (hz : nrem ≤ p₀.size) (h : NonInc K p n) :
    (trun (kcmp K) (kas_tail3 n nrem p)).2.toList.Perm p₀.toList ∧ NonDec K (trun (kcmp K) (kas_tail3 n nrem p)).2 (trun (kcmp K) (kas_tail3 n nrem p)).1 ∧ 1 ≤ (trun (kcmp K) (kas_tail3 n nrem p)).1 ∧ (trun (kcmp K) (kas_tail3 n nrem p)).1 ≤ nrem := by
  have hsz : p.size = p₀.size := by have := hp.length_eq; simpa using this
  unfold kas_tail3
  rw [trun_bind]
  have hd : NonDec K (kas_rev p 0 n) n := by
    intro i j hij hj
    rw [kp_mirror (by omega), kp_mirror (by omega), if_pos (by omega), if_pos (by omega)]
    exact h _ _ (by omega) (by omega)
  have := asc_ok (K := K) (p := kas_rev p 0 n) (nrem - n) n h1 hd
  exact ⟨(rev_perm _ _ _).trans hp, this.2.2.1, by show 1 ≤ trun (kcmp K) _; omega, by show trun (kcmp K) _ ≤ nrem; omega⟩

theorem descPart_ok {p₀ : Array Nat} {n nrem : Nat} (hp : p.toList.Perm p₀.toList) (h1 : 1 ≤ n) (hn : n + 1 ≤ nrem) (hz : nrem ≤ p₀.size) (h : NonInc K p (n + 1)) :
    (trun (kcmp K) (kas_descPart n nrem p)).2.toList.Perm p₀.toList ∧ NonDec K (trun (kcmp K) (kas_descPart n nrem p)).2 (trun (kcmp K) (kas_descPart n nrem p)).1 ∧ 1 ≤ (trun (kcmp K) (kas_descPart n nrem p)).1 ∧ (trun (kcmp K) (kas_descPart n nrem p)).1 ≤ nrem := by
  unfold kas_descPart
  rw [trun_bind]
  have d : Desc' K p₀ p (n + 1) 0 := ⟨hp, h, by omega, fun k h1 h2 => by rw [show k = n by omega]; rfl⟩
  obtain ⟨d', a, b⟩ := desc_ok (nrem - (n + 1)) p (n + 1) 0 d (by omega)
  have hq := d'.le
  have hsz := d'.size
  split
  · have ke := kp_mirror_equal (K := K) (i := _ - (_ + 1)) (j := _) (by omega) d'.eq
    exact tail3_ok ((rev_perm _ _ _).trans d'.perm) (by omega) (by omega) hz fun i j hij hj => by rw [ke, ke]; exact d'.inc i j hij hj
  · exact tail3_ok d'.perm (by omega) (by omega) hz d'.inc

theorem count_ok {nrem : Nat} (h1 : 1 ≤ nrem) (hz : nrem ≤ p.size) :
    (trun (kcmp K) (kas_count nrem p)).2.toList.Perm p.toList ∧ NonDec K (trun (kcmp K) (kas_count nrem p)).2 (trun (kcmp K) (kas_count nrem p)).1 ∧ 1 ≤ (trun (kcmp K) (kas_count nrem p)).1 ∧ (trun (kcmp K) (kas_count nrem p)).1 ≤ nrem := by
  unfold kas_count
  rw [trun_bind]
  have h0 : NonDec K p 1 := fun i j hij hj => by rw [show i = j by omega]; exact Nat.le_refl _
  obtain ⟨a, b, c, d⟩ := asc_ok (K := K) (p := p) (nrem - 1) 1 (Nat.le_refl _) h0
  generalize trun (kcmp K) (kas_asc p (nrem - 1) 1) = n at a b c d
  split
  · rename_i q
    have q' : n = nrem := by simpa using q
    exact ⟨.refl _, c, a, by show n ≤ nrem; omega⟩
  · rename_i q
    have q' : n ≠ nrem := by simpa using q
    have dn := d (by omega)
    split
    · rename_i q1
      show (trun (kcmp K) (if kcmp K (p.getD 0 0) (p.getD (n - 1) 0) = true then KasT.ret (n, p) else kas_descPart n nrem (kas_rev p 0 n))).2.toList.Perm p.toList ∧ NonDec K (trun (kcmp K) (if kcmp K (p.getD 0 0) (p.getD (n - 1) 0) = true then KasT.ret (n, p) else kas_descPart n nrem (kas_rev p 0 n))).2 (trun (kcmp K) (if kcmp K (p.getD 0 0) (p.getD (n - 1) 0) = true then KasT.ret (n, p) else kas_descPart n nrem (kas_rev p 0 n))).1 ∧
        1 ≤ (trun (kcmp K) (if kcmp K (p.getD 0 0) (p.getD (n - 1) 0) = true then KasT.ret (n, p) else kas_descPart n nrem (kas_rev p 0 n))).1 ∧ (trun (kcmp K) (if kcmp K (p.getD 0 0) (p.getD (n - 1) 0) = true then KasT.ret (n, p) else kas_descPart n nrem (kas_rev p 0 n))).1 ≤ nrem
      split
      · exact ⟨.refl _, c, a, by show n ≤ nrem; omega⟩
      · rename_i q2
        have q2' : kp K p (n - 1) ≤ kp K p 0 := Nat.le_of_not_lt fun z => q2 (decide_eq_true z)
        have alleq : ∀ k, 0 ≤ k → k < n → kp K p k = kp K p (n - 1) := fun k _ hk => by
          have e1 := c 0 k (Nat.zero_le _) hk
          have e2 := c k (n - 1) (by omega) (by omega)
          omega
        have ke := kp_mirror_equal (K := K) (i := 0) (j := n) (by omega) alleq
        refine descPart_ok (rev_perm _ _ _) (by omega) (by omega) hz ?_
        have : NonInc K (kas_rev p 0 n) n := fun i j hij hj => by rw [ke, ke, alleq i (Nat.zero_le _) (by omega), alleq j (Nat.zero_le _) hj]; exact Nat.le_refl _
        exact this.succ (by omega) (by rw [ke, ke]; omega)
    · have e : n = 1 := by omega
      subst e
      refine descPart_ok (.refl _) (by omega) (by omega) hz ?_
      have : NonInc K p 1 := fun i j hij hj => by rw [show i = j by omega]; exact Nat.le_refl _
      exact this.succ (by omega) (by omega)

theorem place_ok {k : Nat} (h : NonDec K p k) : ∀ (f l r : Nat), l ≤ r → r ≤ k → r - l ≤ f → (∀ i, i < l → kp K p i ≤ kp K p k) → (∀ i, r ≤ i → i < k → kp K p k < kp K p i) →
    trun (kcmp K) (kas_place p k f l r) ≤ k ∧ (∀ i, i < trun (kcmp K) (kas_place p k f l r) → kp K p i ≤ kp K p k) ∧ (∀ i, trun (kcmp K) (kas_place p k f l r) ≤ i → i < k → kp K p k < kp K p i)
  | 0, l, r, hlr, hr, hf, h1, h2 => ⟨by show l ≤ k; omega, h1, fun i a b => h2 i (by have : l ≤ i := a; omega) b⟩
  | f + 1, l, r, hlr, hr, hf, h1, h2 => by
    have e : trun (kcmp K) (kas_place p k (f + 1) l r) = if l ≥ r then l else if kp K p k < kp K p ((l + r) / 2) then trun (kcmp K) (kas_place p k f l ((l + r) / 2)) else trun (kcmp K) (kas_place p k f ((l + r) / 2 + 1) r) := by
      rw [kas_place]
      split
      · rfl
      · show trun (kcmp K) (if kcmp K (p.getD k 0) (p.getD ((l + r) / 2) 0) = true then kas_place p k f l ((l + r) / 2) else kas_place p k f ((l + r) / 2 + 1) r) = _
        by_cases c : kp K p k < kp K p ((l + r) / 2)
        · rw [if_pos c, if_pos (decide_eq_true c)]
        · rw [if_neg c, if_neg (fun z => c (of_decide_eq_true z))]
    rw [e]
    split
    · exact ⟨by omega, h1, fun i a b => h2 i (by omega) b⟩
    · split
      · rename_i c
        exact place_ok h f l ((l + r) / 2) (by omega) (by omega) (by omega) h1 fun i a b => Nat.lt_of_lt_of_le c (h _ i a b)
      · rename_i c
        refine place_ok h f ((l + r) / 2 + 1) r (by omega) hr (by omega) (fun i a => ?_) h2
        exact Nat.le_trans (h i ((l + r) / 2) (by omega) (by omega)) (by omega)

theorem bin_ok {p₀ : Array Nat} : ∀ (f : Nat) (p : Array Nat) (k : Nat), p.toList.Perm p₀.toList → 1 ≤ k → k + f ≤ p₀.size → NonDec K p k →
    (trun (kcmp K) (kas_bin f p k)).toList.Perm p₀.toList ∧ NonDec K (trun (kcmp K) (kas_bin f p k)) (k + f)
  | 0, p, k, hp, h1, hz, h => ⟨hp, h⟩
  | f + 1, p, k, hp, h1, hz, h => by
    have hsz : p.size = p₀.size := by have := hp.length_eq; simpa using this
    rw [kas_bin, trun_bind]
    obtain ⟨a, b, c⟩ := place_ok h k 0 k (Nat.zero_le _) (Nat.le_refl _) (by omega) (fun i hi => by omega) (fun i h1 h2 => by omega)
    generalize trun (kcmp K) (kas_place p k k 0 k) = l at a b c
    have kb := kp_bubble (K := K) (p := p) (src := k) (d := k - l) (by omega) (by omega)
    have e1 : k - (k - l) = l := by omega
    rw [e1] at kb
    have := bin_ok f (bubble p k (k - l)) (k + 1) ((bubble_perm p k _).toList.trans hp) (by omega) (by omega) (fun i j hij hj => by
      rw [kb, kb]
      split
      · split
        · exact Nat.le_refl _
        · split
          · exact Nat.le_of_lt (c _ (by omega) (by omega))
          · omega
      · split
        · split
          · omega
          · split
            · exact h _ _ (by omega) (by omega)
            · omega
        · split
          · exact b i (by omega)
          · split
            · exact h _ _ (by omega) (by omega)
            · exact h _ _ hij (by omega))
    rw [show k + (f + 1) = k + 1 + f by omega]
    exact this

theorem sort_ok {n : Nat} (h1 : 1 ≤ n) : (trun (kcmp K) (kas_sort n)).toList.Perm (List.range n) ∧ NonDec K (trun (kcmp K) (kas_sort n)) n := by
  unfold kas_sort
  rw [trun_bind]
  obtain ⟨a, b, c, d⟩ := count_ok (K := K) (p := List.toArray (List.range n)) (nrem := n) h1 (by simp)
  generalize trun (kcmp K) (kas_count n (List.toArray (List.range n))) = r at a b c d
  split
  · rename_i q
    have e : max r.1 1 = r.1 := by omega
    rw [e]
    have := bin_ok (K := K) (p₀ := List.toArray (List.range n)) (n - r.1) r.2 r.1 a c (by simp; omega) b
    rw [show r.1 + (n - r.1) = n by omega] at this
    exact this
  · rename_i q
    have e : r.1 = n := by omega
    rw [e] at b
    exact ⟨a, b⟩
end Mine

/-! sorted(..) of a list of pairs -/
namespace Mine
open PySem.MeetsSeq

/-- every question of the tree stays in bounds -/
noncomputable def KOk {α : Type} (n : Nat) (Q : α → Prop) : KasT α → Prop
  | .ret a => Q a
  | .ask i j k => i < n ∧ j < n ∧ ∀ b, KOk n Q (k b)
theorem KOk.bind {α β : Type} {n : Nat} {Q : α → Prop} {Q' : β → Prop} {f : α → KasT β} (hf : ∀ a, Q a → KOk n Q' (f a)) : ∀ t : KasT α, KOk n Q t → KOk n Q' (t.bind f)
  | .ret a, h => hf a h
  | .ask i j k, h => ⟨h.1, h.2.1, fun b => KOk.bind hf (k b) (h.2.2 b)⟩
noncomputable def Inn (n : Nat) (p : Array Nat) : Prop := ∀ x ∈ p.toList, x < n
theorem Inn.get {n : Nat} {p : Array Nat} (h : Inn n p) (h0 : 0 < n) (i : Nat) : p.getD i 0 < n := by
  by_cases q : i < p.size
  · have : p.getD i 0 = p[i] := by simp [Array.getD, q]
    rw [this]
    exact h _ (by simp)
  · have : p.getD i 0 = 0 := by simp [Array.getD, q]
    rw [this]; exact h0
theorem Inn.rev {n : Nat} {p : Array Nat} (h : Inn n p) (i j : Nat) : Inn n (kas_rev p i j) := fun x hx => h x ((rev_perm p i j).mem_iff.mp hx)
theorem Inn.bub {n : Nat} {p : Array Nat} (h : Inn n p) (i j : Nat) : Inn n (bubble p i j) := fun x hx => h x ((bubble_perm p i j).toList.mem_iff.mp hx)

section
variable {n : Nat} (h0 : 0 < n)
include h0
theorem ok_asc {p : Array Nat} (h : Inn n p) : ∀ f m, KOk n (fun _ => True) (kas_asc p f m)
  | 0, m => True.intro
  | f + 1, m => by
    refine ⟨h.get h0 _, h.get h0 _, fun b => ?_⟩
    cases b
    · exact ok_asc h f (m + 1)
    · exact True.intro
theorem ok_desc : ∀ f p m q, Inn n p → KOk n (fun r => Inn n r.1) (kas_desc f p m q)
  | 0, p, m, q, h => h
  | f + 1, p, m, q, h => by
    refine ⟨h.get h0 _, h.get h0 _, fun b => ?_⟩
    cases b
    · refine ⟨h.get h0 _, h.get h0 _, fun b => ?_⟩
      cases b
      · exact ok_desc f _ _ _ h
      · exact h
    · show KOk n _ (if q > 0 then kas_desc f (kas_rev p (m - (q + 1)) m) (m + 1) 0 else kas_desc f p (m + 1) 0)
      split
      · exact ok_desc f _ _ _ (h.rev _ _)
      · exact ok_desc f _ _ _ h
theorem ok_tail3 {p : Array Nat} (h : Inn n p) (a b : Nat) : KOk n (fun r => Inn n r.2) (kas_tail3 a b p) := by
  refine KOk.bind (Q := fun _ => True) (fun m _ => ?_) _ (ok_asc h0 (h.rev _ _) _ _)
  exact h.rev 0 a
theorem ok_descPart {p : Array Nat} (h : Inn n p) (a b : Nat) : KOk n (fun r => Inn n r.2) (kas_descPart a b p) := by
  refine KOk.bind (fun r hr => ?_) _ (ok_desc h0 _ _ _ _ h)
  split
  · exact ok_tail3 h0 (hr.rev _ _) _ _
  · exact ok_tail3 h0 hr _ _
theorem ok_count {p : Array Nat} (h : Inn n p) (b : Nat) : KOk n (fun r => Inn n r.2) (kas_count b p) := by
  refine KOk.bind (fun m _ => ?_) _ (ok_asc h0 h _ _)
  split
  · exact h
  · split
    · refine ⟨h.get h0 _, h.get h0 _, fun b => ?_⟩
      cases b
      · exact ok_descPart h0 (h.rev _ _) _ _
      · exact h
    · exact ok_descPart h0 h _ _
theorem ok_place {p : Array Nat} (h : Inn n p) (k : Nat) : ∀ f l r, KOk n (fun _ => True) (kas_place p k f l r)
  | 0, l, r => True.intro
  | f + 1, l, r => by
    rw [kas_place]
    split
    · exact True.intro
    · refine ⟨h.get h0 _, h.get h0 _, fun b => ?_⟩
      cases b
      · exact ok_place h k f _ _
      · exact ok_place h k f _ _
theorem ok_bin : ∀ f p k, Inn n p → KOk n (Inn n) (kas_bin f p k)
  | 0, p, k, h => h
  | f + 1, p, k, h => KOk.bind (fun l _ => ok_bin f _ _ (h.bub _ _)) _ (ok_place h0 h k _ _ _)
theorem ok_sort : KOk n (Inn n) (kas_sort n) := by
  refine KOk.bind (fun r hr => ?_) _ (ok_count h0 (p := List.toArray (List.range n)) (fun x hx => by simpa using hx) n)
  split
  · exact ok_bin h0 _ _ _ hr
  · exact hr
end

theorem kas_run {α : Type} {n : Nat} {cmp : Nat → Nat → Bool} {W : Nat → Nat → (Bool → Shared → Prop) → Shared → Prop} {s : Shared} {Q : α → Prop}
    (hW : ∀ i j (C : Bool → Shared → Prop), i < n → j < n → C (cmp i j) s → W i j C s) {R : α → Shared → Prop} : ∀ t : KasT α, KOk n Q t → R (trun cmp t) s → t.kasWp W R s
  | .ret a, _, h => h
  | .ask i j k, o, h => hW i j _ o.1 o.2.1 (kas_run hW (k (cmp i j)) (o.2.2 _) h)

/-- all that lies on a heap, but one -/
noncomputable def others (h : Heap) (L : Addr) : List (Addr × Obj) := (List.range h.objs.size).filterMap fun a => if a = L then none else (h.get? a).map fun o => (a, o)
theorem mem_others {h : Heap} {L : Addr} {p : Addr × Obj} : p ∈ others h L ↔ p.1 ≠ L ∧ h.get? p.1 = some p.2 := by
  unfold others
  rw [List.mem_filterMap]
  constructor
  · rintro ⟨a, ha, e⟩
    split at e
    · cases e
    · rename_i q
      cases g : h.get? a with
      | none => rw [g] at e; cases e
      | some o =>
        rw [g] at e
        cases e
        exact ⟨q, g⟩
  · rintro ⟨h1, h2⟩
    exact ⟨p.1, List.mem_range.mpr (Heap.lt_size h2), by rw [if_neg h1, h2]; rfl⟩
noncomputable def heap0 : Heap := ⟨#[], {}⟩
theorem heap0_get (a : Addr) : heap0.get? a = none := Heap.get?_none_of_le (Nat.zero_le _)

section
variable {prog : Program} {w : World} {P : Par} {G : Heap} {L : Addr} {ms : List (Str × Value)} {X : List (Addr × Obj)} {s : Shared} {A : Around} {E : Value → Shared → Prop}

theorem oneN {x y : Value} {n m : Int} {h : Heap} {Q : Bool → Shared → Prop} (hu : A.units < cLine) (K : Sub G s.heap) (hn : RepN G x n) (hm : RepN G y m) (q : Q (decide (rank n < rank m)) s) :
    wpAny (model prog w) A (keyLt' oneType' x y) Q E s := by
  obtain ⟨b, t1, t2, k, rfl, ho⟩ := hn
  obtain ⟨b', t1', t2', k', rfl, ho'⟩ := hm
  rw [keyLt'_oneType, oneLt'_eq]
  simp only [if_true]
  refine wpAny_bind (wpAny_cRoomFor hu ?_)
  refine wpAny_bind (wpAny_callSpecialIfBound?_slot ⟨_, K _ _ ho, rfl⟩ PySem.F.slot_list_lt ?_)
  refine call_meets PySem.F.slot_list_lt ⟨_, K _ _ ho, rfl⟩ PySem.F.entry_list_lt (PySem.F.args_list_lt_2 _ _) (list_lt b b' [.int (n.natAbs : Int) t1, .int n t2].toArray [.int (m.natAbs : Int) t1', .int m t2'].toArray k k' rfl (sel2 ((n.natAbs : Int) == (m.natAbs : Int)) (n == m)) (sel2 (decide ((n.natAbs : Int) < (m.natAbs : Int))) (decide (n < m))) ?_ ?_) ⟨K _ _ ho, K _ _ ho', ?_⟩
  · intro j h1 h2
    rcases j with _ | _ | j
    · exact EqGives.int _ _ _ _
    · exact EqGives.int _ _ _ _
    · exact absurd h1 (by simp)
  · intro j h1 h2
    rcases j with _ | _ | j
    · exact LtGives.int _ _ _ _
    · exact LtGives.int _ _ _ _
    · exact absurd h1 (by simp)
  · have e : lexB (sel2 ((n.natAbs : Int) == (m.natAbs : Int)) (n == m)) (sel2 (decide ((n.natAbs : Int) < (m.natAbs : Int))) (decide (n < m))) (List.range 2) = decide (rank n < rank m) := by
      rw [← num_rank]
      show (if ((n.natAbs : Int) == (m.natAbs : Int)) = true then (if (n == m) = true then false else decide (n < m)) else decide ((n.natAbs : Int) < (m.natAbs : Int))) = _
      simp only [beq_iff_eq, Int.ofNat_lt, Int.ofNat_inj]
    refine wpAny_truthy_bool ?_
    show Q (lexB (sel2 ((n.natAbs : Int) == (m.natAbs : Int)) (n == m)) (sel2 (decide ((n.natAbs : Int) < (m.natAbs : Int))) (decide (n < m))) (List.range 2)) s
    rw [e]
    exact q

theorem All2.getN {vs : List Value} {ns : List Int} {R : Value → Int → Prop} (h : All2 R vs ns) {i : Nat} (hi : i < vs.length) : R (vs.getD i Value.none) (ns.getD i 0) := by
  obtain ⟨b, hb, r⟩ := h.get i vs[i] (by simp [hi])
  have e1 : vs.getD i Value.none = vs[i] := by simp [hi]
  have e2 : ns.getD i 0 = b := by simp [hb]
  rw [e1, e2]; exact r

theorem All2.ofMap {α β γ : Type} {R : β → γ → Prop} {f : α → β} {g : α → γ} : ∀ {l : List α}, (∀ x ∈ l, R (f x) (g x)) → All2 R (l.map f) (l.map g)
  | [], _ => .nil
  | x :: l, h => .cons (h x (.head _)) (All2.ofMap fun y hy => h y (.tail _ hy))

theorem range_getD (ns : List Int) : (List.range ns.length).map (fun i => ns.getD i 0) = ns := by
  apply List.ext_getElem
  · simp
  · intro i h1 h2
    simp [h2]

theorem sorted_n {l : Addr} {vs : List Value} {ns : List Int} {c : Nat} {Q : Value → Shared → Prop} (hu : A.units + 2 < cLine) (F : FS P G L ms X s) (hl : s.heap.get? l = some (listOf vs.toArray c)) (hv : All2 (RepN G) vs ns) (h2 : 2 ≤ vs.length) (h64 : vs.length < 64)
    (K : ∀ D c' vs' ns' h', ns'.Perm ns → ns'.Pairwise (fun a b => rank a ≤ rank b) → All2 (RepN G) vs' ns' → FS P G L ms ((D, listOf vs'.toArray c') :: X) { s with heap := h' } → Q (.ref D) { s with heap := h' }) :
    wpAny (model prog w) A (call (.builtin "sorted") [.ref l]) Q E s := by
  obtain ⟨m, hm, hms⟩ := F.ns
  have F0 : Fr heap0 L s.heap m := ⟨hm, fun b o e => absurd ((heap0_get b).symm.trans e) (fun z => nomatch z), Nat.zero_le _⟩
  have N0 : News heap0 L s.heap (others s.heap L) := fun p hp => ⟨(mem_others.mp hp).2, (mem_others.mp hp).1, heap0_get _⟩
  have kept : ∀ h', News heap0 L h' (others s.heap L) → Sub G h' := fun h' N b o e => by
    have : b ≠ L := fun q => by subst q; rw [F.lo] at e; cases e
    exact (N (b, o) (mem_others.mpr ⟨this, F.st.keep _ _ e⟩)).1
  refine kas_sorted F0 N0 (T := .type "list") ⟨_, hl, rfl, _, rfl⟩ h2 h64 ?_ (by decide) ?_
  · intro h _ N v hvm
    obtain ⟨n, _, b, t1, t2, k, rfl, ho⟩ := hv.mem v hvm
    exact fun A Q E s k q => wpAny_typeOf (T := "list") ⟨_, k _ _ (kept h N _ _ ho), rfl⟩ q
  · intro D e1 h' F' N' hD
    have KG := kept h' fun p hp => N' p (.tail _ hp)
    refine kas_run (cmp := kcmp fun i => rank (ns.getD i 0)) (n := vs.length) (fun i j C hi hj hC => ?_) _ (ok_sort (by omega)) ?_
    · exact oneN (h := h') (by show A.units + 1 + 1 < cLine; omega) KG (hv.getN hi) (hv.getN hj) hC
    · obtain ⟨pp, nd⟩ := sort_ok (K := fun i => rank (ns.getD i 0)) (n := vs.length) (by omega)
      generalize trun (kcmp fun i => rank (ns.getD i 0)) (kas_sort vs.length) = p at pp nd
      refine KasFin.intro F' N' (.head fun p hp => Nat.ne_of_lt (hD p hp)) fun h'' c'' F'' N'' => ?_
      refine K D c'' (p.toList.map fun i => vs.getD i Value.none) (p.toList.map fun i => ns.getD i 0) h'' ?_ ?_ ?_ ?_
      · have := pp.map fun i => ns.getD i 0
        rwa [hv.length, range_getD] at this
      · rw [List.pairwise_map, List.pairwise_iff_getElem]
        intro i j hi hj hij
        have hsz : p.toList.length = vs.length := by rw [pp.length_eq, List.length_range]
        have := nd i j (by omega) (by omega)
        have e1 : p.getD i 0 = p.toList[i] := by simp [Array.getD, show i < p.size by simpa using hi]
        have e2 : p.getD j 0 = p.toList[j] := by simp [Array.getD, show j < p.size by simpa using hj]
        unfold kp at this
        rw [e1, e2] at this
        exact this
      · exact All2.ofMap fun i hi => hv.getN (by have := pp.mem_iff.mp hi; simpa using this)
      · have kG := kept h'' fun q hq => N'' q (.tail _ hq)
        refine ⟨⟨F.st.wd, kG, ?_, ?_, ?_, F.st.gens, F.st.os⟩, ⟨m, F''.ns, hms⟩, F.lo, ?_⟩
        · intro q hq
          rcases List.mem_cons.mp hq with e | e
          · subst e; exact (N'' _ (.head _)).1
          · exact (N'' q (.tail _ (mem_others.mpr ⟨F.ne q e, F.st.has q e⟩))).1
        · intro q hq
          rcases List.mem_cons.mp hq with e | e
          · subst e
            cases g : G.get? D with
            | none => rfl
            | some o =>
              have : D ≠ L := fun q => by subst q; rw [F.lo] at g; cases g
              exact absurd (hD (D, o) (mem_others.mpr ⟨this, F.st.keep _ _ g⟩)) (Nat.lt_irrefl _)
          · exact F.st.sep q e
        · simp only [List.map_cons, List.nodup_cons]
          refine ⟨fun h => ?_, F.st.nd⟩
          obtain ⟨q, hq, e⟩ := List.mem_map.mp h
          have := hD q (mem_others.mpr ⟨F.ne q hq, F.st.has q hq⟩)
          exact absurd e (Nat.ne_of_lt this)
        · intro q hq
          rcases List.mem_cons.mp hq with e | e
          · subst e; exact (N'' _ (.head _)).2.1
          · exact F.ne q e
end
end Mine

namespace Mine
open PySem.MeetsSeq
local macro_rules | `(tactic| walk_at "up") => `(tactic| first | exact Up.head | exact Up.tail Up.head | exact Up.tail (Up.tail Up.head) | exact Up.tail (Up.tail (Up.tail Up.head)) | exact Up.tail (Up.tail (Up.tail (Up.tail Up.head))) | exact Up.tail (Up.tail (Up.tail (Up.tail (Up.tail Up.head)))) | exact Up.tail (Up.tail (Up.tail (Up.tail (Up.tail (Up.tail Up.head))))) | exact Up.tail (Up.tail (Up.tail (Up.tail (Up.tail (Up.tail (Up.tail Up.head)))))))
local macro_rules | `(tactic| walk_at "cov") => `(tactic| repeat (first | exact cov_nil | refine cov_cons rfl ?_))
local macro_rules | `(tactic| walk_at "mem") => `(tactic| first | exact List.Mem.head _ | (refine List.Mem.tail _ ?_; walk_at "mem"))

/-- a line that is told -/
noncomputable def RepL (G : Heap) (v : Value) (n : Int) : Prop := ∃ b t1 t2 t3 t4 t5 k, v = .ref b ∧ G.get? b = some (listOf [.int (n.natAbs : Int) t1, .int n t2, .int ((word n.natAbs).length : Int) t3, .bytes (word n.natAbs).toArray t4, .int (sgn n) t5].toArray k)
theorem RepL.mono {G G' : Heap} (k : Sub G G') : ∀ v n, RepL G v n → RepL G' v n := fun v n ⟨b, t1, t2, t3, t4, t5, j, e, h⟩ => ⟨b, t1, t2, t3, t4, t5, j, e, k _ _ h⟩

theorem covf_nil {m : Str → Option Value} : ∀ x v, ([] : List (Str × Value)).lookup x = some v → m x = some v := fun _ _ e => nomatch e
theorem covf_cons {m : Str → Option Value} {ms' : List (Str × Value)} {y : Str} {u : Value} (h : m y = some u) (c : ∀ x v, ms'.lookup x = some v → m x = some v) : ∀ x v, ((y, u) :: ms').lookup x = some v → m x = some v := fun x v e => by
  rw [List.lookup_cons] at e
  by_cases q : x = y
  · subst q; simp only [beq_self_eq_true] at e; cases e; exact h
  · have : (x == y) = false := by simpa using q
    rw [this] at e; exact c x v e
theorem St.sub {P : Par} {G : Heap} {X X' : List (Addr × Obj)} {s : Shared} (S : St P G X s) (h : List.Sublist X' X) : St P G X' s :=
  ⟨S.wd, S.keep, fun q hq => S.has q (h.subset hq), fun q hq => S.sep q (h.subset hq), List.Nodup.sublist (h.map _) S.nd, S.gens, S.os⟩
theorem cell_eta (o : Obj) {v : Option Value} (h : o.data = .cell v) : o = cellO o v := by
  cases o; simp_all

section
variable {prog : Program} {w : World} {A : Around} {E : Value → Shared → Prop} {s : Shared} {P : Par} {G : Heap} {X : List (Addr × Obj)} {a fa l : Addr} {n : Nat} {its : List Value} {Q : Value → Shared → Prop}

theorem sgn_ite {x : Int} {c1 c2 : Nat} {p1 p2 : Pos} {env : Env} {Q : Value → Shared → Prop} (h : ∀ u t, Q (.int (sgn x) u) { s with toks := t }) :
    if decide (0 < x) = true then wpAny (model prog w) A (eval (.Constant (.int 1) c1 p1) env) Q E s else wpAny (model prog w) A (eval (.Constant (.int 0) c2 p2) env) Q E s := by
  split
  · rename_i q
    have e : sgn x = 1 := by unfold sgn; rw [if_pos (by simpa using q)]
    rw [e] at h
    exact constI h
  · rename_i q
    have e : sgn x = 0 := by unfold sgn; rw [if_neg (by simpa using q)]
    rw [e] at h
    exact constI h

set_option maxHeartbeats 4000000 in
theorem told_c {sa la : Addr} {sk lk : Nat} {svs lvs : List Value} {S ls : List Int} (hfa : P.mg "_law_told" = some (.ref fa)) (R : Room A 12) (S₀ : St P G X s)
    (hs : G.get? sa = some (listOf svs.toArray sk)) (hsI : IntsAre svs S) (hs1 : S ≠ []) (hsl : S.length ≤ 1001) (hsS : ∀ n ∈ S, Small n)
    (hl : G.get? la = some (listOf lvs.toArray lk)) (hlI : IntsAre lvs ls) (hl1 : ls ≠ []) (hl4 : ls.length ≤ 4) (hld : ∀ d ∈ ls, (0 : Int) ≤ d ∧ d < 16)
    (h : ∀ s' G' l tvs T H k, Sub G G' → Trace ls S T H → T.length = 12 → Good S.length 12 H → All2 (RepL G') tvs T → St P G' ((l, listOf (List.toArray tvs) k) :: X) s' → Q (.ref l) s') :
    wpAny (model prog w) A (call (.ref fa) [.ref sa, .ref la]) Q E s := by
  refine enterC (binds := [("starts", .ref sa), ("letters", .ref la)]) 11 rfl hfa R S₀ [("starts", .ref sa), ("letters", .ref la)] (fun _ _ _ => rfl) rfl (by decide +kernel) (fun L cd => covf_cons rfl (covf_cons rfl covf_nil)) (fun L cd A' s' cells R hc F => ?_)
  have hc' : CellsAre _ [("sign", L + 1 + 1 + 1), ("count", L + 1 + 1), ("word", L + 1)] cells := hc
  obtain ⟨o3, o2, o1, rfl, d3, d2, d1⟩ := CellsAre.three hc'
  clear hc hc'
  have F0 : FS P G L [("starts", .ref sa), ("letters", .ref la)] ((L + 1 + 1 + 1, cellO o3 none) :: (L + 1 + 1, cellO o2 none) :: (L + 1, cellO o1 none) :: X) s' := by
    rw [cell_eta o3 d3, cell_eta o2 d2, cell_eta o1 d1] at F
    exact F
  clear F d1 d2 d3
  have hsv := hsI.length
  have hlv := hlI.length
  -- numbers = [..]
  refine seqF (fun s => ∃ G' D acc k, Sub G G' ∧ All2 (RepN G') acc S ∧ FS P G' L [("starts", .ref sa), ("letters", .ref la), ("numbers", .ref D)] ((D, listOf (List.toArray acc) k) :: (L + 1 + 1 + 1, cellO o3 none) :: (L + 1 + 1, cellO o2 none) :: (L + 1, cellO o1 none) :: X) s) ?_ ?_
  · refine compA (P := P) R.handled [] rfl <| ldF F0 rfl ⟨sa, svs, sk, G, _, _, fun i G' acc => All2 (RepN G') acc (S.take i), rfl, hs, by omega, F0, ⟨.nil, ?_⟩, ?_⟩
    · intro i v G' acc C oC D k I o' s1 hv hG hJ hN F1
      obtain ⟨x, tx, rfl, hx⟩ := hsI.at i v hv
      refine tests_nil ?_
      rw [if_pos rfl]
      refine List_ <| spliced_more <| callB F1 bi_abs (by decide) <| spliced_more <| ldC (F1.st.has _ (.head _)) hN rfl <| spliced_none <| absI fun u2 t2 => spliced_more <| ldC (F1.st.has _ (.head _)) hN rfl <| spliced_none <| newListZ (F1.toks t2) (by simp) fun l G'' s3 hG'' hl3 F3 => ?_
      refine ⟨G'', hG'', ?_, F3⟩
      rw [take_snoc hx]
      exact (hJ.mono (RepN.mono hG'')).snoc ⟨l, u2, tx, 0, rfl, hl3⟩
    · intro G' acc k D s1 hG hJ F1
      rw [List.take_of_length_le (by omega)] at hJ
      exact ⟨rfl, G', D, acc, k, hG, hJ, F1.weaken (by walk_at "cov")⟩
  rintro s1 ⟨G1, nA, acc, k1, hG1, hacc, F1⟩
  have hnl := hacc.length
  -- heapify(numbers)
  refine seqF (fun s => ∃ itsN k, HeapOf (RepN G1) itsN S ∧ FS P G1 L [("starts", .ref sa), ("letters", .ref la), ("numbers", .ref nA)] ((nA, listOf (List.toArray itsN) k) :: (L + 1 + 1 + 1, cellO o3 none) :: (L + 1 + 1, cellO o2 none) :: (L + 1, cellO o1 none) :: X) s) ?_ ?_
  · refine exprN <| callD F1 (by decide) fun fb hfb => spliced_more <| ldF F1 rfl <| spliced_none ⟨F1.st.keep, ?_⟩
    obtain ⟨G', S', k', back⟩ := F1.callU (.head _)
    refine heapify_n hfb (R.less (by omega)) (kindN.mono k') S' (fun v hv => let ⟨m, _, r⟩ := hacc.mem v hv; ⟨m, r⟩) (by omega) fun s2 its' k2 H2 S2 => ⟨rfl, rfl, its', k2, ?_, back _ _ S2 _ .head⟩
    rw [hacc.vals (funN G1)] at H2
    exact H2
  rintro s2 ⟨itsN, k2, HN, F2⟩
  clear F1 hacc
  -- words = []
  refine wpAny_execs_cons <| wpAny_Assign_Name <| List_ <| spliced_none <| newListF F2 (by simp) fun wA s3 F3 => stF F3 fun s4 F4 => ?_
  -- for number in starts
  refine seqF (fun s => ∃ G' itsW kw v1, Sub G1 G' ∧ HeapOf (RepW G') itsW S ∧ FS P G' L [("starts", .ref sa), ("letters", .ref la), ("numbers", .ref nA), ("words", .ref wA)] ((wA, listOf (List.toArray itsW) kw) :: (nA, listOf itsN.toArray k2) :: (L + 1 + 1 + 1, cellO o3 none) :: (L + 1 + 1, cellO o2 none) :: (L + 1, cellO o1 v1) :: X) s) ?_ ?_
  · have F5 := F4.weaken (ms' := ([("starts", .ref sa), ("letters", .ref la), ("numbers", .ref nA), ("words", .ref wA)] : List (Str × Value))) (by walk_at "cov")
    refine forListF (P := P) (its := svs) R.handled <| ldF F5 rfl ⟨G1, _, _, rfl, hG1 _ _ hs, F5, fun i G' ms' X' => ∃ itsW kw v1, HeapOf (RepW G') itsW (S.take i) ∧ ms' = ([("starts", .ref sa), ("letters", .ref la), ("numbers", .ref nA), ("words", .ref wA)] : List (Str × Value)) ∧
        X' = (wA, listOf (List.toArray itsW) kw) :: (nA, listOf itsN.toArray k2) :: (L + 1 + 1 + 1, cellO o3 none) :: (L + 1 + 1, cellO o2 none) :: (L + 1, cellO o1 v1) :: X,
      ⟨[], 0, none, HeapOf.nil, rfl, rfl⟩, ?_, ?_⟩
    · rintro i v G' ms' X' s6 I o' hv hG ⟨itsW, kw, v1, HW, rfl, rfl⟩ F6
      obtain ⟨x, tx, rfl, hx⟩ := hsI.at i v hv
      have hxS := hsS x (List.mem_of_getElem? hx)
      have hxw : (word x.natAbs).length ≤ 100000 := by have := word_length_pow 5 x.natAbs (by have := hxS.2; omega); omega
      have hWl : itsW.length ≤ 1001 := by have := HW.length; simp at this; omega
      refine wpAny_execs_cons <| wpAny_Assign_Name <| callD F6 (by decide) fun fb hfb => spliced_more <| ldF F6 rfl <| spliced_none ⟨F6.st.keep, ?_⟩
      obtain ⟨G₇, S₇, k₇, back₇⟩ := F6.call (Y := [])
      refine word_c hfb (R.less (by omega)) S₇ hxw fun s7 t7 S7' => ?_
      have F7 := back₇ _ _ S7'
      refine stCell (c := L + 1) F7 (by walk_at "up") fun s8 F8 => ?_
      have m8 := F8.st.has (L + 1, cellO o1 (some (.bytes (word x.natAbs).toArray t7))) (by walk_at "mem")
      refine wpAny_execs_cons <| exprN <| callD F8 (by decide) fun fp hfp => spliced_more <| ldF F8 rfl <| spliced_more <| List_ <| spliced_more <| callB F8 bi_len (by decide) <| spliced_more <| ldCell m8 <| spliced_none <| lenB (by omega) fun u9 t9 => ?_
      have F9 := F8.toks t9
      refine spliced_more <| ldCell m8 <| spliced_more <| IfExp_ <| wpAny_isTrue_Compare1 <| ldF F9 rfl <| constI fun _ t10 => gt_int <| wpAny_truthy_bool <| sgn_ite fun u11 t11 => spliced_none <| newListZ (F9.toks t11) (by simp) fun lz G'' s11 hG'' hl11 F11 => spliced_none ⟨fun b o e => F11.st.keep b o (hG'' b o e), ?_⟩
      obtain ⟨G₁₂, S₁₂, k₁₂, back₁₂⟩ := F11.callU (a := wA) (by walk_at "mem")
      refine push_n (m := x) hfp (R.less (by omega)) (kindW.mono k₁₂) S₁₂ (HW.mono (funW G'') (RepW.mono hG'')) ⟨lz, u9, t7, u11, 0, rfl, hl11⟩ (by omega) fun s12 itsW' kw' H12 S12 => ⟨rfl, wpAny_execs_nil ⟨G'', _, _, hG'', ⟨itsW', kw', _, ?_, rfl, rfl⟩, (back₁₂ _ _ S12 _ (by walk_at "up")).weaken (by walk_at "cov")⟩⟩
      rw [take_snoc hx]
      exact H12.reperm (List.perm_append_comm (l₁ := [x]))
    · rintro G' ms' X' s6 hG ⟨itsW, kw, v1, HW, rfl, rfl⟩ F6
      rw [List.take_of_length_le (by omega)] at HW
      exact ⟨rfl, G', itsW, kw, v1, hG, HW, F6⟩
  rintro s5 ⟨G2, itsW, kw, v1, hG2, HW, F5⟩
  have HN2 : HeapOf (RepN G2) itsN S := HN.mono (funN G2) (RepN.mono hG2)
  clear F0 F2 F3 F4 HN
  have hGG2 : Sub G G2 := fun b o e => hG2 b o (hG1 b o e)
  -- told = []
  refine wpAny_execs_cons <| wpAny_Assign_Name <| List_ <| spliced_none <| newListF F5 (by simp) fun tA s6 F6 => stF F6 fun s7 F7 => ?_
  clear F5 F6
  -- for turn in range(12)
  refine seqF (fun s => ∃ G' tvs T H kt X'', Sub G G' ∧ Trace ls S T H ∧ T.length = 12 ∧ Good S.length 12 H ∧ All2 (RepL G') tvs T ∧ FS P G' L [("told", .ref tA)] ((tA, listOf (List.toArray tvs) kt) :: (X'' ++ X)) s) ?_ ?_
  · refine forRangeF (P := P) R.handled <| callT F7 bi_range (by decide) <| spliced_more <| constI fun u8 t8 => spliced_none <| rangeN fun ur vr tr => ?_
    have F8 := (((F7.toks t8).alloc (rangeObj 12 u8 ur vr)).toks tr).weaken (ms' := ([("letters", .ref la), ("numbers", .ref nA), ("words", .ref wA), ("told", .ref tA)] : List (Str × Value))) (by walk_at "cov")
    refine ⟨12, _, u8, ur, vr, G2, _, _, by omega, rfl, F8, fun i G' ms' X' => ∃ itsN itsW tvs T H kn kw kt v1 v2 v3, HeapOf (RepN G') itsN H ∧ HeapOf (RepW G') itsW H ∧ All2 (RepL G') tvs T ∧ T.length = i ∧ Trace ls S T H ∧ Good S.length i H ∧
        ms' = ([("letters", .ref la), ("numbers", .ref nA), ("words", .ref wA), ("told", .ref tA)] : List (Str × Value)) ∧
        X' = (tA, listOf (List.toArray tvs) kt) :: (wA, listOf (List.toArray itsW) kw) :: (nA, listOf (List.toArray itsN) kn) :: (L + 1 + 1 + 1, cellO o3 v3) :: (L + 1 + 1, cellO o2 v2) :: (L + 1, cellO o1 v1) :: X,
      ⟨itsN, itsW, [], [], S, k2, kw, 0, v1, none, none, HN2, HW, .nil, rfl, .start (.refl _), ⟨hs1, by omega, fun n hn => ⟨(hsS n hn).1, by have := (hsS n hn).2; omega⟩⟩, rfl, rfl⟩, ?_, ?_⟩
    · clear F7 F8 HN2 HW v1 kw itsW k2 itsN
      rintro i ti G3 ms' X' s9 I o' hi hG3 ⟨itsN, itsW, tvs, T, H, kn, kw, kt, v1, v2, v3, HN, HW, hT, hTl, hTr, hGd, rfl, rfl⟩ F9
      have hNl := HN.length
      have hWl := HW.length
      have hHl := hGd.len
      have hH0 : 0 < H.length := List.length_pos_iff.mpr hGd.ne
      have hlaG : G3.get? la = some (listOf lvs.toArray lk) := hG3 _ _ (hGG2 _ _ hl)
      -- size, number = heappop(numbers)
      refine seqF (fun s => ∃ itsN kn m rest tz tn, H.Perm (m :: rest) ∧ (∀ i ∈ H, rank m ≤ rank i) ∧ HeapOf (RepN G3) itsN rest ∧ FS P G3 L [("letters", .ref la), ("numbers", .ref nA), ("words", .ref wA), ("told", .ref tA), ("size", .int (m.natAbs : Int) tz), ("number", .int m tn)]
        ((I, o') :: (tA, listOf (List.toArray tvs) kt) :: (wA, listOf (List.toArray itsW) kw) :: (nA, listOf (List.toArray itsN) kn) :: (L + 1 + 1 + 1, cellO o3 v3) :: (L + 1 + 1, cellO o2 v2) :: (L + 1, cellO o1 v1) :: X) s) ?_ ?_
      · refine Assign_Tuple <| callD F9 (by decide) fun fb hfb => spliced_more <| ldF F9 rfl <| spliced_none ⟨F9.st.keep, ?_⟩
        obtain ⟨G', S', k', back⟩ := F9.callU (a := nA) (by walk_at "mem")
        refine pop_n hfb (R.less (by omega)) (kindN.mono k') S' HN (by omega) (by omega) fun s10 v itsN' kn' m rest hv hp hle HN' S10 => ?_
        have F10 := back _ _ S10 _ (by walk_at "up")
        obtain ⟨b, tz, tn, kb, rfl, hb⟩ := hv
        refine unpackL R.handled F10 (F10.st.keep _ _ hb) rfl rfl fun s11 F11 => ?_
        exact wpAny_assignInOrder_more <| wpAny_assign_Name <| stF F11 fun s12 F12 => wpAny_assignInOrder_more <| wpAny_assign_Name <| stF F12 fun s13 F13 => wpAny_assignInOrder_none
          ⟨rfl, itsN', kn', m, rest, tz, tn, hp, hle, HN', F13.weaken (by walk_at "cov")⟩
      rintro s10 ⟨itsN1, kn1, m, rest, tz, tn, hp, hle, HN1, F10⟩
      clear F9 HN
      have hm := hGd.num m (hp.mem_iff.mpr (.head _))
      have hpl := hp.length_eq
      simp only [List.length_cons] at hpl
      have hN1l := HN1.length
      have hmw : (word m.natAbs).length ≤ 1000 := by
        have := word_length_pow (5 + i) m.natAbs hm.2; omega
      -- for letter in letters
      refine seqF (fun s => ∃ G4 itsN kn, Sub G3 G4 ∧ HeapOf (RepN G4) itsN (ls.map (child m) ++ rest) ∧ FS P G4 L [("letters", .ref la), ("numbers", .ref nA), ("words", .ref wA), ("told", .ref tA), ("size", .int (m.natAbs : Int) tz), ("number", .int m tn)]
        ((I, o') :: (tA, listOf (List.toArray tvs) kt) :: (wA, listOf (List.toArray itsW) kw) :: (nA, listOf (List.toArray itsN) kn) :: (L + 1 + 1 + 1, cellO o3 v3) :: (L + 1 + 1, cellO o2 v2) :: (L + 1, cellO o1 v1) :: X) s) ?_ ?_
      · refine forListF (P := P) (its := lvs) R.handled <| ldF F10 rfl ⟨G3, _, _, rfl, hlaG, F10, fun j G' ms' X' => ∃ itsN kn, HeapOf (RepN G') itsN ((ls.take j).map (child m) ++ rest) ∧
            ms' = ([("letters", .ref la), ("numbers", .ref nA), ("words", .ref wA), ("told", .ref tA), ("size", .int (m.natAbs : Int) tz), ("number", .int m tn)] : List (Str × Value)) ∧
            X' = (I, o') :: (tA, listOf (List.toArray tvs) kt) :: (wA, listOf (List.toArray itsW) kw) :: (nA, listOf (List.toArray itsN) kn) :: (L + 1 + 1 + 1, cellO o3 v3) :: (L + 1 + 1, cellO o2 v2) :: (L + 1, cellO o1 v1) :: X,
          ⟨itsN1, kn1, HN1, rfl, rfl⟩, ?_, ?_⟩
        · rintro j v G' ms' X' s11 I2 o2' hv hG' ⟨itsN2, kn2, HN2, rfl, rfl⟩ F11
          obtain ⟨d, td, rfl, hd⟩ := hlI.at j v hv
          have hdd := hld d (List.mem_of_getElem? hd)
          have hN2l := HN2.length
          simp only [List.length_append, List.length_map, List.length_take] at hN2l
          refine wpAny_execs_cons <| wpAny_Assign_Name <| callD F11 (by decide) fun fb hfb => spliced_more <| ldF F11 rfl <| spliced_more <| ldF F11 rfl <| spliced_none ⟨F11.st.keep, ?_⟩
          obtain ⟨G₇, S₇, k₇, back₇⟩ := F11.call (Y := [])
          refine child_c hfb (R.less (by omega)) S₇ fun s12 t12 S12 => ?_
          have F12 := back₇ _ _ S12
          refine stF F12 fun s13 F13 => ?_
          refine wpAny_execs_cons <| exprN <| callD F13 (by decide) fun fp hfp => spliced_more <| ldF F13 rfl <| spliced_more <| List_ <| spliced_more <| callB F13 bi_abs (by decide) <| spliced_more <| ldF F13 rfl <| spliced_none <| absI fun u14 t14 =>
            spliced_more <| ldF (F13.toks t14) rfl <| spliced_none <| newListZ (F13.toks t14) (by simp) fun lz G'' s15 hG'' hl15 F15 => spliced_none ⟨fun b o e => F15.st.keep b o (hG'' b o e), ?_⟩
          obtain ⟨G₁₂, S₁₂, k₁₂, back₁₂⟩ := F15.callU (a := nA) (by walk_at "mem")
          refine push_n (m := child m d) hfp (R.less (by omega)) (kindN.mono k₁₂) S₁₂ (HN2.mono (funN G'') (RepN.mono hG'')) ⟨lz, u14, t12, 0, rfl, hl15⟩ (by omega) fun s16 itsN3 kn3 H16 S16 => ⟨rfl, wpAny_execs_nil ⟨G'', _, _, hG'', ⟨itsN3, kn3, ?_, rfl, rfl⟩, (back₁₂ _ _ S16 _ (by walk_at "up")).weaken (by walk_at "cov")⟩⟩
          rw [take_snoc hd, List.map_append, List.append_assoc]
          exact H16.reperm (List.perm_middle.symm)
        · rintro G' ms' X' s11 hG' ⟨itsN2, kn2, HN2, rfl, rfl⟩ F11
          rw [List.take_of_length_le (by omega)] at HN2
          exact ⟨rfl, G', itsN2, kn2, hG', HN2, F11⟩
      rintro s11 ⟨G4, itsN2, kn2, hG4, HN2, F11⟩
      clear F10 HN1
      have HW4 : HeapOf (RepW G4) itsW H := HW.mono (funW G4) (RepW.mono hG4)
      have hT4 : All2 (RepL G4) tvs T := hT.mono (RepL.mono hG4)
      clear HW hT
      have hlaG4 : G4.get? la = some (listOf lvs.toArray lk) := hG4 _ _ hlaG
      obtain ⟨mw, restw, hmw1, hpw, hlew, _⟩ := HW4.least (funW G4) (by omega)
      have emw : mw = m := rank_inj (Nat.le_antisymm (hlew m (hp.mem_iff.mpr (.head _))) (hle mw (hpw.mem_iff.mpr (.head _))))
      subst emw
      -- count, word, sign = words[0]
      obtain ⟨bw, tc, tw, ts, kbw, hbw, hbwG⟩ := hmw1
      refine seqF (fun s => FS P G4 L [("letters", .ref la), ("numbers", .ref nA), ("words", .ref wA), ("told", .ref tA), ("size", .int (mw.natAbs : Int) tz), ("number", .int mw tn)]
        ((I, o') :: (tA, listOf (List.toArray tvs) kt) :: (wA, listOf (List.toArray itsW) kw) :: (nA, listOf (List.toArray itsN2) kn2) :: (L + 1 + 1 + 1, cellO o3 (some (.int (sgn mw) ts))) :: (L + 1 + 1, cellO o2 (some (.int ((word mw.natAbs).length : Int) tc))) :: (L + 1, cellO o1 (some (.bytes (word mw.natAbs).toArray tw))) :: X) s) ?_ ?_
      · refine Assign_Tuple <| Subscript_ <| ldF F11 rfl <| constI fun _ t12 => subN (j := 0) (F11.st.has (wA, _) (by walk_at "mem")) (by omega) (by omega) ?_
        rw [hbw]
        have F12 := F11.toks t12
        refine unpackL R.handled F12 (F12.st.keep _ _ hbwG) rfl rfl fun s13 F13 => ?_
        exact wpAny_assignInOrder_more <| wpAny_assign_Name <| stCell (c := L + 1 + 1) F13 (by walk_at "up") fun s14 F14 => wpAny_assignInOrder_more <| wpAny_assign_Name <| stCell (c := L + 1) F14 (by walk_at "up") fun s15 F15 =>
          wpAny_assignInOrder_more <| wpAny_assign_Name <| stCell (c := L + 1 + 1 + 1) F15 (by walk_at "up") fun s16 F16 => wpAny_assignInOrder_none ⟨rfl, F16⟩
      intro s12 F12
      clear F11
      -- longer = [..]
      refine seqF (fun s => ∃ G5 D acc k, Sub G4 G5 ∧ All2 (RepW G5) acc (ls.map (child mw)) ∧ FS P G5 L [("letters", .ref la), ("numbers", .ref nA), ("words", .ref wA), ("told", .ref tA), ("size", .int (mw.natAbs : Int) tz), ("number", .int mw tn), ("longer", .ref D)]
        ((D, listOf (List.toArray acc) k) :: (I, o') :: (tA, listOf (List.toArray tvs) kt) :: (wA, listOf (List.toArray itsW) kw) :: (nA, listOf (List.toArray itsN2) kn2) :: (L + 1 + 1 + 1, cellO o3 (some (.int (sgn mw) ts))) :: (L + 1 + 1, cellO o2 (some (.int ((word mw.natAbs).length : Int) tc))) :: (L + 1, cellO o1 (some (.bytes (word mw.natAbs).toArray tw))) :: X) s) ?_ ?_
      · refine compA (P := P) R.handled [("word", L + 1), ("sign", L + 1 + 1 + 1), ("count", L + 1 + 1)] rfl <| ldF F12 rfl ⟨la, lvs, lk, G4, _, _, fun j G' acc => All2 (RepW G') acc ((ls.take j).map (child mw)), rfl, hlaG4, by omega, F12, ⟨.nil, ?_⟩, ?_⟩
        · intro j v G' acc C oC D k I2 o2' s13 hv hG' hJ hN F13
          obtain ⟨d, td, rfl, hd⟩ := hlI.at j v hv
          have hdd := hld d (List.mem_of_getElem? hd)
          have mc := F13.st.has (L + 1 + 1, cellO o2 (some (.int ((word mw.natAbs).length : Int) tc))) (by walk_at "mem")
          have mwd := F13.st.has (L + 1, cellO o1 (some (.bytes (word mw.natAbs).toArray tw))) (by walk_at "mem")
          refine tests_nil ?_
          rw [if_pos rfl]
          refine List_ <| spliced_more <| wpAny_BinOp <| ldCell mc <| constI fun _ _ => addI fun u14 t14 => spliced_more <| wpAny_BinOp <| ldCell mwd <| callT (F13.toks t14) bi_bytes (by decide) <| spliced_more <| List_ <| spliced_more <| wpAny_BinOp <| constI fun _ _ =>
            ldC (F13.st.has _ (.head _)) hN rfl <| addI fun u15 t15 => spliced_none <| newListF (F13.toks t15) (by simp) fun lb s16 F16 => spliced_none <| bytesI R.handled F16 (F16.st.has _ (.head _)) (.cons _ _ .nil) (by intro z hz; simp at hz; omega) (by simp) fun t17 s17 F17 =>
            KBy.add_bytes (by simp [byteArr]; omega) fun t18 k18 => ?_
          have F18 := F17.drop.toks k18
          have ms18 := F18.st.has (L + 1 + 1 + 1, cellO o3 (some (.int (sgn mw) ts))) (by walk_at "mem")
          refine spliced_more <| ldCell ms18 <| spliced_none <| newListZ F18 (by simp) fun l G'' s19 hG'' hl19 F19 => ⟨G'', hG'', ?_, F19⟩
          rw [take_snoc hd, List.map_append]
          refine (hJ.mono (RepW.mono hG'')).snoc ⟨l, u14, t18, ts, 0, rfl, ?_⟩
          rw [hl19, child_word hm.1 hdd.1 hdd.2, child_sgn hm.1 hdd.1]
          have e1 : (byteArr [65 + d]) = [UInt8.ofNat (65 + d.toNat)].toArray := by
            have : (65 + d).toNat = 65 + d.toNat := by omega
            simp [byteArr, this]
          rw [e1]
          simp
        · intro G' acc k D s13 hG' hJ F13
          rw [List.take_of_length_le (by omega)] at hJ
          exact ⟨rfl, G', D, acc, k, hG', hJ, F13.weaken (by walk_at "cov")⟩
      rintro s13 ⟨G5, D, acc, kD, hG5, hacc, F13⟩
      clear F12
      have HW5 : HeapOf (RepW G5) itsW H := HW4.mono (funW G5) (RepW.mono hG5)
      have HN5 : HeapOf (RepN G5) itsN2 (ls.map (child mw) ++ rest) := HN2.mono (funN G5) (RepN.mono hG5)
      have hT5 : All2 (RepL G5) tvs T := hT4.mono (RepL.mono hG5)
      have hG35 : Sub G3 G5 := fun b o e => hG5 b o (hG4 b o e)
      clear HW4 HN2 hT4
      have hal := hacc.length
      simp only [List.length_map] at hal
      obtain ⟨d0, ls', hlse⟩ : ∃ d0 ls', ls = d0 :: ls' := by cases ls with | nil => exact absurd rfl hl1 | cons a b => exact ⟨a, b, rfl⟩
      obtain ⟨y0, acc', rfl, hy0, hacc'⟩ : ∃ y0 acc', acc = y0 :: acc' ∧ RepW G5 y0 (child mw d0) ∧ All2 (RepW G5) acc' (ls'.map (child mw)) := by
        rw [hlse, List.map_cons] at hacc
        cases hacc with | cons a b => exact ⟨_, _, rfl, a, b⟩
      have hal' := hacc'.length
      simp only [List.length_map] at hal'
      have hls'4 : ls'.length ≤ 3 := by rw [hlse] at hl4; simp at hl4; omega
      -- if heapreplace(words, longer[0]) != [count, word, sign]
      refine seqF (fun s => ∃ itsW kw, HeapOf (RepW G5) itsW (child mw d0 :: rest) ∧ FS P G5 L [("letters", .ref la), ("numbers", .ref nA), ("words", .ref wA), ("told", .ref tA), ("size", .int (mw.natAbs : Int) tz), ("number", .int mw tn), ("longer", .ref D)]
        ((D, listOf (List.toArray (y0 :: acc')) kD) :: (I, o') :: (tA, listOf (List.toArray tvs) kt) :: (wA, listOf (List.toArray itsW) kw) :: (nA, listOf (List.toArray itsN2) kn2) :: (L + 1 + 1 + 1, cellO o3 (some (.int (sgn mw) ts))) :: (L + 1 + 1, cellO o2 (some (.int ((word mw.natAbs).length : Int) tc))) :: (L + 1, cellO o1 (some (.bytes (word mw.natAbs).toArray tw))) :: X) s) ?_ ?_
      · refine wpAny_If <| wpAny_isTrue_Compare1 <| callD F13 (by decide) fun fb hfb => spliced_more <| ldF F13 rfl <| spliced_more <| Subscript_ <| ldF F13 rfl <| constI fun _ t14 => subN (j := 0) (F13.st.has (D, _) (by walk_at "mem")) (by simp) (by simp; omega) <| spliced_none ⟨F13.st.keep, ?_⟩
        have F14 := F13.toks t14
        obtain ⟨G', S', k', back⟩ := F14.callU (a := wA) (by walk_at "mem")
        refine replace_n (j := child mw d0) hfb (R.less (by omega)) (kindW.mono k') S' HW5 hy0 (by omega) (by omega) fun s15 itsW' kw' m2 rest2 hv2 hp2 hle2 HW' S15 => ?_
        have F15 := back _ _ S15 _ (by walk_at "up")
        have em2 : m2 = mw := rank_inj (Nat.le_antisymm (hle2 mw (hp.mem_iff.mpr (.head _))) (hle m2 (hp2.mem_iff.mpr (.head _))))
        subst em2
        have hrest : rest2.Perm rest := (List.perm_cons m2).mp (hp2.symm.trans hp)
        have mc := F15.st.has (L + 1 + 1, cellO o2 (some (.int ((word m2.natAbs).length : Int) tc))) (by walk_at "mem")
        have mwd := F15.st.has (L + 1, cellO o1 (some (.bytes (word m2.natAbs).toArray tw))) (by walk_at "mem")
        have msg := F15.st.has (L + 1 + 1 + 1, cellO o3 (some (.int (sgn m2) ts))) (by walk_at "mem")
        refine List_ <| spliced_more <| ldCell mc <| spliced_more <| ldCell mwd <| spliced_more <| ldCell msg <| spliced_none <| newListF F15 (by simp) fun lz s16 F16 => ?_
        rw [hbw]
        refine neL (e := fun _ => true) (by have := R.units; omega) (F16.st.keep _ _ (hG5 _ _ hbwG)) (F16.st.has _ (.head _)) rfl (fun j h1 h2 => ?_) ?_
        · rcases j with _ | _ | _ | j
          · have := EqGives.int ((word m2.natAbs).length : Int) ((word m2.natAbs).length : Int) tc tc
            rw [beq_self_eq_true] at this
            exact this.at _ _
          · have := EqGives_bytes (word m2.natAbs).toArray (word m2.natAbs).toArray tw tw
            rw [beq_self_eq_true] at this
            exact this.at _ _
          · have := EqGives.int (sgn m2) (sgn m2) ts ts
            rw [beq_self_eq_true] at this
            exact this.at _ _
          · exact absurd h1 (by simp only [List.length_cons, List.length_nil]; omega)
        · refine wpAny_truthy_bool ?_
          rw [show (!(List.range ([Value.int ((word m2.natAbs).length : Int) tc, Value.bytes (word m2.natAbs).toArray tw, Value.int (sgn m2) ts] : List Value).length).all fun _ => true) = false from rfl, if_neg Bool.false_ne_true]
          exact wpAny_execs_nil ⟨rfl, itsW', kw', HW'.reperm (hrest.cons _), F16.drop⟩
      rintro s14 ⟨itsW5, kw5, HW5', F14⟩
      clear F13 HW5
      have hW5l := HW5'.length
      simp only [List.length_cons] at hW5l
      -- for item in longer[1:]
      refine seqF (fun s => ∃ G6 itsW kw, Sub G5 G6 ∧ HeapOf (RepW G6) itsW (ls.map (child mw) ++ rest) ∧ FS P G6 L [("letters", .ref la), ("numbers", .ref nA), ("words", .ref wA), ("told", .ref tA), ("size", .int (mw.natAbs : Int) tz), ("number", .int mw tn)]
        ((I, o') :: (tA, listOf (List.toArray tvs) kt) :: (wA, listOf (List.toArray itsW) kw) :: (nA, listOf (List.toArray itsN2) kn2) :: (L + 1 + 1 + 1, cellO o3 (some (.int (sgn mw) ts))) :: (L + 1 + 1, cellO o2 (some (.int ((word mw.natAbs).length : Int) tc))) :: (L + 1, cellO o1 (some (.bytes (word mw.natAbs).toArray tw))) :: X) s) ?_ ?_
      · refine forListV (P := P) R.handled <| sliceF <| ldF F14 rfl <| wpAny_evalPart_some <| constI fun _ t15 => wpAny_evalPart_none ⟨D, y0 :: acc', kD, some 1, none, G5, _, _, rfl, F14.st.has (D, _) (by walk_at "mem"), by simp; omega, .int _ _, .none, F14.toks t15, fun l' s16 F16 => ?_⟩
        have esl : slicePick (y0 :: acc').toArray (some 1) none none = acc'.toArray := by
          have := slicePick_from' (y0 :: acc').toArray 1
          simpa using this
        rw [esl] at F16
        obtain ⟨G6, hG6, hl6, F17⟩ := F16.freeze
        have F18 := F17.drop.weaken (ms' := ([("letters", .ref la), ("numbers", .ref nA), ("words", .ref wA), ("told", .ref tA), ("size", .int (mw.natAbs : Int) tz), ("number", .int mw tn)] : List (Str × Value))) (by walk_at "cov")
        refine ⟨l', acc', 0, G6, _, _, rfl, hl6, F18, fun j G' ms' X' => ∃ itsW kw, HeapOf (RepW G') itsW ((ls'.take j).map (child mw) ++ child mw d0 :: rest) ∧
            ms' = ([("letters", .ref la), ("numbers", .ref nA), ("words", .ref wA), ("told", .ref tA), ("size", .int (mw.natAbs : Int) tz), ("number", .int mw tn)] : List (Str × Value)) ∧
            X' = (I, o') :: (tA, listOf (List.toArray tvs) kt) :: (wA, listOf (List.toArray itsW) kw) :: (nA, listOf (List.toArray itsN2) kn2) :: (L + 1 + 1 + 1, cellO o3 (some (.int (sgn mw) ts))) :: (L + 1 + 1, cellO o2 (some (.int ((word mw.natAbs).length : Int) tc))) :: (L + 1, cellO o1 (some (.bytes (word mw.natAbs).toArray tw))) :: X,
          ⟨itsW5, kw5, HW5'.mono (funW G6) (RepW.mono hG6), rfl, rfl⟩, ?_, ?_⟩
        · rintro j v G' ms' X' s19 I2 o2' hv hG' ⟨itsW6, kw6, HW6, rfl, rfl⟩ F19
          have hW6l := HW6.length
          simp only [List.length_append, List.length_map, List.length_take, List.length_cons] at hW6l
          obtain ⟨c, hc, hvc⟩ := hacc'.get j v hv
          rw [List.getElem?_map] at hc
          obtain ⟨d, hd, rfl⟩ := Option.map_eq_some_iff.mp hc
          refine wpAny_execs_cons <| exprN <| callD F19 (by decide) fun fp hfp => spliced_more <| ldF F19 rfl <| spliced_more <| ldF F19 rfl <| spliced_none ⟨F19.st.keep, ?_⟩
          obtain ⟨G₁₂, S₁₂, k₁₂, back₁₂⟩ := F19.callU (a := wA) (by walk_at "mem")
          refine push_n (m := child mw d) hfp (R.less (by omega)) (kindW.mono k₁₂) S₁₂ HW6 (RepW.mono (fun b o e => hG' b o (hG6 b o e)) _ _ hvc) (by omega) fun s20 itsW7 kw7 H20 S20 => ⟨rfl, wpAny_execs_nil ⟨G', _, _, fun _ _ e => e, ⟨itsW7, kw7, ?_, rfl, rfl⟩, (back₁₂ _ _ S20 _ (by walk_at "up")).weaken (by walk_at "cov")⟩⟩
          rw [take_snoc hd, List.map_append, List.append_assoc]
          exact H20.reperm (List.perm_middle.symm)
        · rintro G' ms' X' s19 hG' ⟨itsW6, kw6, HW6, rfl, rfl⟩ F19
          rw [List.take_of_length_le (by omega)] at HW6
          refine ⟨rfl, G', itsW6, kw6, fun b o e => hG' b o (hG6 b o e), ?_, F19⟩
          rw [hlse, List.map_cons, List.cons_append]
          exact HW6.reperm List.perm_middle
      rintro s15 ⟨G6, itsW6, kw6, hG6, HW6, F15⟩
      clear F14 HW5'
      have htl := hT5.length
      -- told.append(..)
      have mc := F15.st.has (L + 1 + 1, cellO o2 (some (.int ((word mw.natAbs).length : Int) tc))) (by walk_at "mem")
      have mwd := F15.st.has (L + 1, cellO o1 (some (.bytes (word mw.natAbs).toArray tw))) (by walk_at "mem")
      have msg := F15.st.has (L + 1 + 1 + 1, cellO o3 (some (.int (sgn mw) ts))) (by walk_at "mem")
      refine wpAny_execs_cons <| exprN <| appF F15 rfl (F15.st.has (tA, _) (by walk_at "mem")) <| List_ <| spliced_more <| ldF F15 rfl <| spliced_more <| ldF F15 rfl <| spliced_more <| ldCell mc <| spliced_more <| ldCell mwd <| spliced_more <| ldCell msg <| spliced_none <| newListZ F15 (by simp) fun lz G7 s16 hG7 hl7 F16 =>
        ⟨G7, _, _, _, tvs, kt, F16, by walk_at "up", by omega, fun s17 F17 => ⟨rfl, wpAny_execs_nil ?_⟩⟩
      have hG57 : Sub G5 G7 := fun b o e => hG7 b o (hG6 b o e)
      refine ⟨G7, _, _, fun b o e => hG57 b o (hG35 b o e), ⟨itsN2, itsW6, tvs ++ [Value.ref lz], T ++ [mw], ls.map (child mw) ++ rest, kn2, kw6, kt + 1, some (.bytes (word mw.natAbs).toArray tw), some (.int ((word mw.natAbs).length : Int) tc), some (.int (sgn mw) ts), HN5.mono (funN G7) (RepN.mono hG57), HW6.mono (funW G7) (RepW.mono hG7), (hT5.mono (RepL.mono hG57)).snoc ⟨lz, tz, tn, tc, tw, ts, 0, rfl, hl7⟩, by simp; omega, .turn hTr hp hle (.refl _), hGd.step hp hl1 hl4 hld, rfl, rfl⟩, F17.weaken (by walk_at "cov")⟩
    · rintro G' ms' X' s9 hG' ⟨itsN, itsW, tvs, T, H, kn, kw, kt, v1, v2, v3, HN, HW, hT, hTl, hTr, hGd, rfl, rfl⟩ F9
      exact ⟨rfl, G', tvs, T, H, kt, [_, _, _, _, _], fun b o e => hG' b o (hGG2 b o e), hTr, hTl, hGd, hT, F9.weaken (by walk_at "cov")⟩
  · rintro s8 ⟨G', tvs, T, H, kt, X'', hG', hTr, hTl, hGd, hT, F8⟩
    refine wpAny_execs_cons <| wpAny_Return_some <| ldF F8 rfl <| h s8 G' tA tvs T H kt hG' hTr hTl hGd hT (F8.st.sub (List.Sublist.cons_cons _ (List.sublist_append_right _ _)))
end
end Mine

namespace Mine
open PySem.MeetsSeq
local macro_rules | `(tactic| walk_at "up") => `(tactic| first | exact Up.head | exact Up.tail Up.head | exact Up.tail (Up.tail Up.head) | exact Up.tail (Up.tail (Up.tail Up.head)) | exact Up.tail (Up.tail (Up.tail (Up.tail Up.head))))
local macro_rules | `(tactic| walk_at "cov") => `(tactic| repeat (first | exact cov_nil | refine cov_cons rfl ?_))
local macro_rules | `(tactic| walk_at "mem") => `(tactic| first | exact List.Mem.head _ | (refine List.Mem.tail _ ?_; walk_at "mem"))

section
variable {prog : Program} {w : World} {A : Around} {E : Value → Shared → Prop} {s : Shared} {P : Par} {G : Heap} {X : List (Addr × Obj)} {a fa l : Addr} {n : Nat} {its : List Value} {Q : Value → Shared → Prop}

theorem ldN {M : Model} {L : Addr} {ms : List (Str × Value)} {env : Env} {x : Str} {v : Value} {Q : Value → Shared → Prop} (F : FS P G L ms X s) (hv : ms.lookup x = some v) (h : Q v s)
    (hk : env.scope.kind = .function := by rfl) (hl : env.kindOf x = some .local := by rfl) (hL : env.locals = L := by rfl) :
    wpAny M A (loadName env x) Q E s :=
  let ⟨_, h1, h2⟩ := F.ns; wpAny_loadName_local hk hl (hL.symm ▸ h1) (h2 _ _ hv) h

theorem filter_snoc {p : Int → Bool} {l : List Int} {x : Int} : (l ++ [x]).filter p = l.filter p ++ (if p x = true then [x] else []) := by
  rw [List.filter_append, List.filter_cons, List.filter_nil]

set_option maxHeartbeats 4000000 in
theorem due_c {sa la : Addr} {sk lk : Nat} {svs lvs : List Value} {S ls : List Int} {B : Nat} {tl : Tok} (hfa : P.mg "_law_due" = some (.ref fa)) (R : Room A 12) (S₀ : St P G X s)
    (hs : G.get? sa = some (listOf svs.toArray sk)) (hsI : IntsAre svs S) (hsl : S.length ≤ 1001) (hsS : ∀ n ∈ S, n ≠ 0)
    (hl : G.get? la = some (listOf lvs.toArray lk)) (hlI : IntsAre lvs ls) (hl4 : ls.length ≤ 4) (hld : Digits ls)
    (h2 : 2 ≤ (RBL B ls S).length) (h64 : (RBL B ls S).length < 64)
    (h : ∀ s' G' l vs ns k, Sub G G' → All2 (RepN G') vs ns → ns.Perm (RBL B ls S) → ns.Pairwise (fun a b => rank a ≤ rank b) → St P G' ((l, listOf (List.toArray vs) k) :: X) s' → Q (.ref l) s') :
    wpAny (model prog w) A (call (.ref fa) [.ref sa, .ref la, .int (B : Int) tl]) Q E s := by
  refine enterC (binds := [("starts", .ref sa), ("letters", .ref la), ("last", .int (B : Int) tl)]) 12 rfl hfa R S₀ [("starts", .ref sa), ("letters", .ref la)] (fun _ _ _ => rfl) rfl (by decide +kernel) (fun L cd => covf_cons rfl (covf_cons rfl covf_nil)) (fun L cd A' s' cells R hc F => ?_)
  have hc' : CellsAre _ [("last", L + 1)] cells := hc
  obtain ⟨o1, rfl, d1⟩ := CellsAre.one hc'
  clear hc hc'
  have F0 : FS P G L [("starts", .ref sa), ("letters", .ref la)] ((L + 1, cellO o1 (some (.int (B : Int) tl))) :: X) s' := by
    rw [cell_eta o1 d1] at F
    exact F
  clear F d1
  have hsv := hsI.length
  have hlv := hlI.length
  -- row = [..]
  refine seqF (fun s => ∃ G' D acc k, Sub G G' ∧ IntsAre acc (S.filter fun n => decide (n.natAbs ≤ B)) ∧ FS P G' L [("letters", .ref la), ("row", .ref D)] ((D, listOf (List.toArray acc) k) :: (L + 1, cellO o1 (some (.int (B : Int) tl))) :: X) s) ?_ ?_
  · refine compA (P := P) R.handled [("last", L + 1)] rfl <| ldF F0 rfl ⟨sa, svs, sk, G, _, _, fun i G' acc => IntsAre acc ((S.take i).filter fun n => decide (n.natAbs ≤ B)), rfl, hs, by omega, F0, ⟨.nil, ?_⟩, ?_⟩
    · intro i v G' acc C oC D k I o' s1 hv hG hJ hN F1
      obtain ⟨x, tx, rfl, hx⟩ := hsI.at i v hv
      have mc := F1.st.has (L + 1, cellO o1 (some (.int (B : Int) tl))) (by walk_at "mem")
      refine tests_one <| wpAny_isTrue_Compare1 <| callB F1 bi_abs (by decide) <| spliced_more <| ldC (F1.st.has _ (.head _)) hN rfl <| spliced_none <| absI fun u2 t2 => ldCell mc <| le_int <| wpAny_truthy_bool ?_
      have F2 := F1.toks t2
      split
      · rename_i q
        refine ldC (F2.st.has _ (.head _)) hN rfl ⟨G', fun _ _ e => e, ?_, F2⟩
        rw [take_snoc hx, filter_snoc, if_pos (by simpa using q)]
        exact hJ.append (.cons _ _ .nil)
      · rename_i q
        refine ⟨G', fun _ _ e => e, ?_, F2⟩
        rw [take_snoc hx, filter_snoc, if_neg (by simpa using q), List.append_nil]
        exact hJ
    · intro G' acc k D s1 hG hJ F1
      rw [List.take_of_length_le (by omega)] at hJ
      exact ⟨rfl, G', D, acc, k, hG, hJ, F1.weaken (by walk_at "cov")⟩
  rintro s1 ⟨G1, rA, acc, k1, hG1, hacc, F1⟩
  clear F0
  -- place = 0
  refine wpAny_execs_cons <| wpAny_Assign_Name <| constI fun u2 t2 => stF (F1.toks t2) fun s3 F3 => ?_
  clear F1
  have F4 := F3.weaken (ms' := ([("letters", .ref la), ("row", .ref rA), ("place", .int ((0 : Nat) : Int) u2)] : List (Str × Value))) (by walk_at "cov")
  clear F3
  -- while place < len(row)
  refine seqF (fun s => ∃ G' vs ns k, Sub G G' ∧ IntsAre vs ns ∧ (RBL B ls S).Perm ns ∧ FS P G' L [("row", .ref rA)] ((rA, listOf (List.toArray vs) k) :: (L + 1, cellO o1 (some (.int (B : Int) tl))) :: X) s) ?_ ?_
  · refine whileF (fun m s => ∃ G' vs dn td k t, Sub G G' ∧ IntsAre vs (dn ++ td) ∧ (RBL B ls S).Perm (dn ++ RBL B ls td) ∧ (∀ x ∈ td, x ≠ 0 ∧ x.natAbs ≤ B) ∧ m = (RBL B ls td).length ∧
        FS P G' L [("letters", .ref la), ("row", .ref rA), ("place", .int (dn.length : Int) t)] ((rA, listOf (List.toArray vs) k) :: (L + 1, cellO o1 (some (.int (B : Int) tl))) :: X) s) ?_ _
      ⟨G1, acc, [], _, k1, u2, hG1, hacc, by rw [List.nil_append, RBL_filter hld hsS], (fun x hx => by
        rw [List.mem_filter] at hx
        exact ⟨hsS x hx.1, by simpa using hx.2⟩), rfl, F4⟩
    clear F4
    rintro m s5 ⟨G2, vs, dn, td, k, t, hG2, hI, hp, htd, rfl, F5⟩
    have hvl := hI.length
    simp only [List.length_append] at hvl
    have hpl := hp.length_eq
    simp only [List.length_append] at hpl
    have htl := RBL_length hld htd
    refine wpAny_isTrue_Compare1 <| ldF F5 rfl <| callB F5 bi_len (by decide) <| spliced_more <| ldF F5 rfl <| spliced_none <| lenL (F5.st.has _ (.head _)) (by omega) fun u6 t6 => lt_int <| wpAny_truthy_bool ?_
    have F6 := F5.toks t6
    clear F5
    split
    · rename_i q
      have q' : dn.length < dn.length + td.length := by
        have : (dn.length : Int) < (vs.length : Int) := by simpa using q
        omega
      cases td with
      | nil => simp at q'
      | cons x td =>
        have hx := htd x (.head _)
        have hturn := RBL_turn (ls := ls) (rest := td) hld hx.1 hx.2
        have hk0 : vs[dn.length]? = some (at' vs dn.length) := at_get (by omega)
        obtain ⟨x', tx, hat, hx'⟩ := hI.at _ _ hk0
        rw [List.getElem?_append_right (Nat.le_refl _), Nat.sub_self] at hx'
        have ex : x = x' := by simpa using hx'
        subst ex
        -- for letter in letters
        refine seqF (fun s => ∃ G' vs k, Sub G G' ∧ IntsAre vs (dn ++ x :: td ++ ((ls.map (child x)).filter fun n => decide (n.natAbs ≤ B))) ∧ FS P G' L [("letters", .ref la), ("row", .ref rA), ("place", .int (dn.length : Int) t)] ((rA, listOf (List.toArray vs) k) :: (L + 1, cellO o1 (some (.int (B : Int) tl))) :: X) s) ?_ ?_
        · refine forListF (P := P) (its := lvs) R.handled <| ldF F6 rfl ⟨G2, _, _, rfl, hG2 _ _ hl, F6, fun j G' ms' X' => ∃ vs k, IntsAre vs (dn ++ x :: td ++ (((ls.take j).map (child x)).filter fun n => decide (n.natAbs ≤ B))) ∧ ms' = ([("letters", .ref la), ("row", .ref rA), ("place", .int (dn.length : Int) t)] : List (Str × Value)) ∧
              X' = (rA, listOf (List.toArray vs) k) :: (L + 1, cellO o1 (some (.int (B : Int) tl))) :: X,
            ⟨vs, k, by simpa using hI, rfl, rfl⟩, ?_, ?_⟩
          · clear F6 hat hk0
            rintro j v G' ms' X' s7 I o' hv hG' ⟨vs7, k7, hI7, rfl, rfl⟩ F7
            obtain ⟨d, td', rfl, hd⟩ := hlI.at j v hv
            have h7l := hI7.length
            have hfl := List.length_filter_le (fun n : Int => decide (n.natAbs ≤ B)) ((ls.take j).map (child x))
            simp only [List.length_append, List.length_map, List.length_take] at h7l hfl
            simp only [List.length_cons] at h7l htl
            have hk7 : vs7[dn.length]? = some (at' vs7 dn.length) := at_get (by omega)
            obtain ⟨x7, tx7, hat7, hx7⟩ := hI7.at _ _ hk7
            rw [List.append_assoc, List.getElem?_append_right (Nat.le_refl _), Nat.sub_self] at hx7
            have ex7 : x = x7 := by simpa using hx7
            subst ex7
            refine wpAny_execs_cons <| wpAny_Assign_Name <| callD F7 (by decide) fun fb hfb => spliced_more <| Subscript_ <| ldF F7 rfl <| ldF F7 rfl <| subN (j := dn.length) (F7.st.has (rA, _) (by walk_at "mem")) (by omega) (by omega) <| spliced_more <| ldF F7 rfl <| spliced_none ⟨F7.st.keep, ?_⟩
            rw [hat7]
            obtain ⟨G₇, S₇, k₇, back₇⟩ := F7.call (Y := [])
            refine child_c hfb (R.less (by omega)) S₇ fun s8 t8 S8 => stF (back₇ _ _ S8) fun s9 F9 => ?_
            have mc := F9.st.has (L + 1, cellO o1 (some (.int (B : Int) tl))) (by walk_at "mem")
            refine seqF (fun s => ∃ vs k, IntsAre vs (dn ++ x :: td ++ (((ls.take (j + 1)).map (child x)).filter fun n => decide (n.natAbs ≤ B))) ∧ FS P G' L [("letters", .ref la), ("row", .ref rA), ("place", .int (dn.length : Int) t)] ((I, o') :: (rA, listOf (List.toArray vs) k) :: (L + 1, cellO o1 (some (.int (B : Int) tl))) :: X) s) ?_ ?_
            · refine wpAny_If <| wpAny_isTrue_Compare1 <| callB F9 bi_abs (by decide) <| spliced_more <| ldF F9 rfl <| spliced_none <| absI fun u10 t10 => ldCell mc <| le_int <| wpAny_truthy_bool ?_
              have F10 := F9.toks t10
              split
              · rename_i q10
                refine wpAny_execs_cons <| exprN <| appF F10 rfl (F10.st.has (rA, _) (by walk_at "mem")) <| ldF F10 rfl ⟨G', _, _, _, vs7, k7, F10, by walk_at "up", by omega, fun s11 F11 => ⟨rfl, wpAny_execs_nil ⟨rfl, _, _, ?_, F11.weaken (by walk_at "cov")⟩⟩⟩
                rw [take_snoc hd, List.map_append, List.map_singleton, filter_snoc, if_pos (by simpa using q10), ← List.append_assoc]
                exact hI7.append (.cons _ _ .nil)
              · rename_i q10
                refine wpAny_execs_nil ⟨rfl, vs7, k7, ?_, F10.weaken (by walk_at "cov")⟩
                rw [take_snoc hd, List.map_append, List.map_singleton, filter_snoc, if_neg (by simpa using q10), List.append_nil]
                exact hI7
            · rintro s10 ⟨vs8, k8, hI8, F10⟩
              exact wpAny_execs_nil ⟨G', _, _, fun _ _ e => e, ⟨vs8, k8, hI8, rfl, rfl⟩, F10⟩
          · rintro G' ms' X' s7 hG' ⟨vs7, k7, hI7, rfl, rfl⟩ F7
            rw [List.take_of_length_le (by omega)] at hI7
            exact ⟨rfl, G', vs7, k7, fun b o e => hG' b o (hG2 b o e), hI7, F7⟩
        rintro s7 ⟨G3, vs3, k3, hG3, hI3, F7⟩
        refine wpAny_execs_cons <| wpAny_AugAssign_Name <| ldN F7 rfl <| constI fun _ t8 => iadd_int <| stF (F7.toks _) fun s9 F9 => wpAny_execs_nil ?_
        refine ⟨_, ?_, G3, vs3, dn ++ [x], td ++ ((ls.map (child x)).filter fun n => decide (n.natAbs ≤ B)), k3, t8, hG3, ?_, ?_, ?_, rfl, ?_⟩
        · have := hturn.length_eq
          simp only [List.length_cons] at this
          omega
        · simpa using hI3
        · refine hp.trans ?_
          rw [List.append_assoc]
          exact List.Perm.append_left dn hturn
        · intro y hy
          rcases List.mem_append.mp hy with hy | hy
          · exact htd y (.tail _ hy)
          · rw [List.mem_filter, List.mem_map] at hy
            obtain ⟨⟨d, hd, rfl⟩, hy2⟩ := hy
            exact ⟨child_ne hx.1 (hld d hd).1, by simpa using hy2⟩
        · have e : (dn.length : Int) + 1 = ((dn ++ [x]).length : Int) := by simp
          rw [e] at F9
          exact F9.weaken (by walk_at "cov")
    · rename_i q
      have q' : td = [] := by
        have : ¬ (dn.length : Int) < (vs.length : Int) := by simpa using q
        exact List.eq_nil_of_length_eq_zero (by omega)
      subst q'
      refine ⟨rfl, G2, vs, dn, k, hG2, by simpa using hI, by simpa [RBL] using hp, F6.weaken (by walk_at "cov")⟩
  rintro s5 ⟨G2, vs, ns, k, hG2, hI, hp, F5⟩
  clear F4
  have hvl := hI.length
  have hpl := hp.length_eq
  obtain ⟨G3, hG3, hr3, F6⟩ := F5.freeze
  clear F5
  refine wpAny_execs_cons <| wpAny_Return_some <| callB F6 bi_sorted (by decide) <| spliced_more <| compE (P := P) R.handled [] rfl <| ldF F6 rfl ⟨rA, vs, k, G3, _, _, fun i G' acc => All2 (RepN G') acc (ns.take i), rfl, hr3, by omega, F6, ⟨.nil, ?_⟩, ?_⟩
  · intro i v G' acc C oC D k I o' s1 hv hG hJ hN F1
    obtain ⟨x, tx, rfl, hx⟩ := hI.at i v hv
    refine tests_nil ?_
    rw [if_pos rfl]
    refine List_ <| spliced_more <| callB F1 bi_abs (by decide) <| spliced_more <| ldC (F1.st.has _ (.head _)) hN rfl <| spliced_none <| absI fun u2 t2 => spliced_more <| ldC (F1.st.has _ (.head _)) hN rfl <| spliced_none <| newListZ (F1.toks t2) (by simp) fun l G'' s3 hG'' hl3 F3 => ?_
    refine ⟨G'', hG'', ?_, F3⟩
    rw [take_snoc hx]
    exact (hJ.mono (RepN.mono hG'')).snoc ⟨l, u2, tx, 0, rfl, hl3⟩
  · intro G' acc k' D s7 hG' hJ F7
    rw [List.take_of_length_le (by omega)] at hJ
    have hal := hJ.length
    refine spliced_none <| sorted_n (by have := R.units; omega) F7 (F7.st.has _ (.head _)) hJ (by omega) (by omega) fun D' c' vs' ns' h' hpm hpw hA F8 => ?_
    refine h _ G' D' vs' ns' c' (fun b o e => hG' b o (hG3 b o (hG2 b o e))) hA (hpm.trans hp.symm) hpw (F8.st.sub ?_)
    exact List.Sublist.cons_cons _ (List.Sublist.cons _ (List.Sublist.cons _ (List.Sublist.refl _)))
end
end Mine

namespace Mine
open PySem.MeetsSeq PySem.SeqAt
local macro_rules | `(tactic| walk_at "up") => `(tactic| first | exact Up.head | exact Up.tail Up.head | exact Up.tail (Up.tail Up.head))
local macro_rules | `(tactic| walk_at "cov") => `(tactic| repeat (first | exact cov_nil | refine cov_cons rfl ?_))
local macro_rules | `(tactic| walk_at "mem") => `(tactic| first | exact List.Mem.head _ | (refine List.Mem.tail _ ?_; walk_at "mem"))

theorem eqN {A : Around} {s : Shared} {G : Heap} {x y : Value} {n : Int} (hu : A.units < cLine) (K : Sub G s.heap) (hx : RepN G x n) (hy : RepN G y n) : EqAt A s x y true := by
  obtain ⟨b, t1, t2, k, rfl, ho⟩ := hx
  obtain ⟨b', t1', t2', k', rfl, ho'⟩ := hy
  by_cases q : b = b'
  · subst q; exact EqAt.same _
  · refine EqAt.of_refs q ?_
    have := RcAt.lists (A := A) (s := s) (e := fun _ => true) (PySem.IsL.isList (n := k) (K _ _ ho)) (PySem.IsL.isList (n := k') (K _ _ ho')) rfl hu (fun j h1 h2 => by
      rcases j with _ | _ | j
      · have := EqAt.int_int (A := A.in1) (s := s) (n.natAbs : Int) t1 (n.natAbs : Int) t1'
        rw [beq_self_eq_true] at this
        exact this
      · have := EqAt.int_int (A := A.in1) (s := s) n t2 n t2'
        rw [beq_self_eq_true] at this
        exact this
      · exact absurd h1 (by simp))
    exact this

section
variable {prog : Program} {w : World} {A : Around} {E : Value → Shared → Prop} {s : Shared} {P : Par} {G : Heap} {L : Addr} {X : List (Addr × Obj)} {a fa l : Addr} {n : Nat} {its : List Value}

/-- «for a, b, .. in l», l a kept list -/
theorem forTupF {elts : List Expr} {k : Nat} {p pos : Pos} {env : Env} {iter : Expr} {body : List Stmt} {Q : Flow → Shared → Prop} (hh : A.handled = none)
    (hiter : wpAny (model prog w) A (eval iter env) (fun v s₁ => ∃ (l : Addr) (its : List Value) (ln : Nat) (G₁ : Heap) (ms₁ : List (Str × Value)) (X₁ : List (Addr × Obj)), v = .ref l ∧ G₁.get? l = some (listOf its.toArray ln) ∧ FS P G₁ L ms₁ X₁ s₁ ∧
      ∃ J : Nat → Heap → List (Str × Value) → List (Addr × Obj) → Prop, J 0 G₁ ms₁ X₁ ∧
      (∀ i v G' ms' X' s' I o', its[i]? = some v → Sub G₁ G' → J i G' ms' X' → FS P G' L ms' ((I, o') :: X') s' →
        wpAny (model prog w) A (assign (.Tuple elts k p) env v) (fun _ s₂ => wpAny (model prog w) A (execs body env) (fun f s₃ => match f with
          | .next | .cont => ∃ G'' ms'' X'', Sub G' G'' ∧ J (i + 1) G'' ms'' X'' ∧ FS P G'' L ms'' ((I, o') :: X'') s₃
          | .brk => Q .next s₃
          | .ret v => Q (.ret v) s₃) nE s₂) nE s') ∧
      (∀ G' ms' X' s', Sub G₁ G' → J its.length G' ms' X' → FS P G' L ms' X' s' → Q .next s')) nE s)
    (hs : ∀ v, foldedSetIterable iter env v = pure v := by intro _; rfl) :
    wpAny (model prog w) A (exec (.For (.Tuple elts k p) iter body [] pos) env) Q E s := by
  refine wpAny_For (wpAny_mono hiter (fun v s₁ q => ?_) fun _ _ x => x.elim) hs
  obtain ⟨l, its, ln, G₁, ms₁, X₁, rfl, hg, F₁, J, j0, step, done⟩ := q
  refine wpAny_pyIter_list (PySem.IsL.isList (n := ln) (F₁.st.keep _ _ hg)) ?_
  refine forLoopF (iter_list hh hg) ⟨rfl, rfl⟩ (F₁.alloc _) J j0 (fun s o v Q E i hi ho q => ?_) (fun i v G' ms' X' s' o' _ hv hG hJ _ F' => step i v G' ms' X' s' _ o' hv hG hJ F') done
  cases v <;> first | exact wpAny_letOwnedTupleGo_listiter ⟨o, ho, hi.1, hi.2⟩ q | exact (show wpAny _ _ (pure ()) _ _ _ from wpAny_pure q)

theorem subLast {value slice : Expr} {vi : List Value} {v : Value} {u : Tok} {Q : Value → Shared → Prop} (hl : s.heap.get? a = some (listOf (vi ++ [v]).toArray n)) (h : Q v s)
    (hs : subscripted slice false (.ref a) (.int (-1) u) = operate [.ref a, .int (-1) u] (getItem (.ref a) (.int (-1) u)) := by with_unfolding_all rfl) :
    wpAny (model prog w) A (subscriptTail value slice (.ref a) (.int (-1) u)) Q E s :=
  have hL : s.heap.IsList a (vi ++ [v]).toArray := PySem.IsL.isList (n := n) hl
  tail_any hL.typeIs slot_list_getitem.lookup (wpAny_getItem_list_neg hL (by decide) (by simp; omega) (by decide) (by
    have e : ((-1 : Int) + ((vi ++ [v]).toArray.size : Int)).toNat = vi.length := by simp; omega
    rw [e]; simp) h) hs

theorem lenK {Q : Value → Shared → Prop} (hl : s.heap.IsList a its.toArray) (hb : its.length ≤ 1000000) (h : ∀ u t, Q (.int (its.length : Int) u) { s with toks := t }) : wpAny (model prog w) A (call (.builtin "len") [.ref a]) Q E s :=
  Calls.call_len_list (items := its.toArray) hl (by simp; omega) (by simpa using h _ _)
theorem subK {value slice : Expr} {j : Nat} {u : Tok} {Q : Value → Shared → Prop} (hL : s.heap.IsList a its.toArray) (hj : j < its.length) (hb : its.length ≤ 1000000) (h : Q (at' its j) s)
    (hs : subscripted slice false (.ref a) (.int (j : Int) u) = operate [.ref a, .int (j : Int) u] (getItem (.ref a) (.int (j : Int) u)) := by with_unfolding_all rfl) :
    wpAny (model prog w) A (subscriptTail value slice (.ref a) (.int (j : Int) u)) Q E s :=
  tail_any hL.typeIs slot_list_getitem.lookup (wpAny_getItem_list hL (by omega) (by omega) (by rw [Int.toNat_natCast]; simpa using at_get hj) h) hs
theorem sliceK {value : Expr} {lower upper : Option Expr} {p pos : Pos} {env : Env} {Q : Value → Shared → Prop}
    (h : wpAny (model prog w) A (eval value env) (fun o s₁ => wpAny (model prog w) A (evalPart lower env) (fun vl s₂ => wpAny (model prog w) A (evalPart upper env) (fun vu s₃ =>
      ∃ l its lo hi G₁ ms₁ X₁, o = .ref l ∧ s₃.heap.IsList l (List.toArray its) ∧ its.length ≤ 1000000 ∧ IsPart vl lo ∧ IsPart vu hi ∧ FS P G₁ L ms₁ X₁ s₃ ∧
        ∀ l' s₄, FS P G₁ L ms₁ ((l', listOf (slicePick its.toArray lo hi none) 0) :: X₁) s₄ → Q (.ref l') s₄) E s₂) E s₁) E s)
    (ht : ∀ o r, letTemporaryGo value o r = pure () := by intro _ _; rfl) :
    wpAny (model prog w) A (eval (.Subscript value (.Slice lower upper none p) pos) env) Q E s := by
  refine wpAny_Subscript_list_slice (wpAny_mono h (fun o s₁ h₁ => wpAny_mono h₁ (fun vl s₂ h₂ => wpAny_mono h₂ (fun vu s₃ h₃ => ?_) fun _ _ e => e) fun _ _ e => e) fun _ _ e => e) ht
  obtain ⟨l, its, lo, hi, G₁, ms₁, X₁, rfl, hl, hz, pl, pu, F₃, k⟩ := h₃
  exact ⟨l, its.toArray, lo, hi, rfl, hl, by rw [sizeLine_eq]; simp; omega, pl, pu, k _ _ (F₃.sliced _ _)⟩
theorem isList_sub {g h : Heap} (k : Sub g h) (x : g.IsList a its.toArray) : h.IsList a its.toArray := let ⟨o, e, r⟩ := x; ⟨o, k _ _ e, r⟩

theorem slice_le (svs : List Value) : (slicePick svs.toArray (some 1) (some 7) none).toList.length ≤ 6 := by
  rw [slicePick_plain]
  have e1 := clipAt_nat svs.toArray.size 1
  have e7 := clipAt_nat svs.toArray.size 7
  simp only [Option.elim, List.length_take, List.length_drop]
  have e1' : clipAt svs.toArray.size (1 : Int) = min 1 svs.toArray.size := e1
  have e7' : clipAt svs.toArray.size (7 : Int) = min 7 svs.toArray.size := e7
  rw [e1', e7']
  omega

theorem last_split {α : Type} {T : List α} (h : T ≠ []) : ∃ vi v, T = vi ++ [v] := ⟨T.dropLast, T.getLast h, (List.dropLast_concat_getLast h).symm⟩
theorem All2.unsnoc {α β : Type} {R : α → β → Prop} {l : List α} {m : List β} {b : β} (h : All2 R l (m ++ [b])) : ∃ l' a, l = l' ++ [a] ∧ All2 R l' m ∧ R a b := by
  induction m generalizing l with
  | nil => cases h with | cons r h => cases h; exact ⟨[], _, rfl, .nil, r⟩
  | cons x m ih =>
    cases h with
    | cons r h =>
      obtain ⟨l', a, e, h1, h2⟩ := ih h
      subst e
      exact ⟨_ :: l', a, rfl, .cons r h1, h2⟩

set_option maxHeartbeats 4000000 in
theorem law_c {sc : Addr} {svs : List Value} {sns : List Int} {Q : Value → Shared → Prop} (hfa : P.mg "law" = some (.ref fa)) (R : Room A 14) (S₀ : St P G [] s)
    (hs : G.IsList sc svs.toArray) (hsI : IntsAre svs sns) (hsl : svs.length ≤ 1000)
    (h : ∀ s' G', Sub G G' → St P G' [] s' → Q (.bool true) s') :
    wpAny (model prog w) A (call (.ref fa) [.ref sc]) Q E s := by
  refine enterD (binds := [("script", .ref sc)]) 13 rfl hfa R S₀ (fun _ _ _ => rfl) (locs rfl) (fun L cd A' s' R F => ?_)
  -- letters = ..
  refine seqF (fun s => ∃ G' la lvs lk ls, Sub G G' ∧ G'.get? la = some (listOf (List.toArray lvs) lk) ∧ IntsAre lvs ls ∧ ls ≠ [] ∧ ls.length ≤ 4 ∧ Digits ls ∧ FS P G' L [("script", .ref sc), ("letters", .ref la)] [] s) ?_ ?_
  · refine wpAny_Assign_Name <| callD F (by decide) fun fb hfb => spliced_more <| IfExp_ <| wpAny_isTrue_Compare1 <| callB F bi_len (by decide) <| spliced_more <| ldF F rfl <| spliced_none <| lenK (isList_sub F.st.keep hs) (by omega) fun u1 t1 => constI fun u2 t2 => gt_int <| wpAny_truthy_bool ?_
    have F2 := F.toks t2
    split
    · rename_i q
      have q' : 0 < svs.length := by
        have : (0 : Int) < (svs.length : Int) := by simpa using q
        omega
      obtain ⟨x, tx, hat, hx⟩ := hsI.at 0 (at' svs 0) (at_get q')
      refine Subscript_ <| ldF F2 rfl <| constI fun _ t3 => subK (j := 0) (isList_sub F2.st.keep hs) q' (by omega) <| spliced_none ⟨F2.st.keep, ?_⟩
      rw [hat]
      have F3 := F2.toks t3
      obtain ⟨G', S', k', back⟩ := F3.call (Y := [])
      refine letters_c hfb (R.less (by omega)) S' fun s4 la lvs ls lk hI h1 h2 h3 S4 => stF (back _ _ S4) fun s5 F5 => ?_
      obtain ⟨G5, hG5, hla, F6⟩ := (F5.weaken (ms' := ([("script", .ref sc), ("letters", .ref la)] : List (Str × Value))) (by walk_at "cov")).freeze
      exact ⟨rfl, G5, la, lvs, lk, ls, hG5, hla, hI, h1, h2, h3, F6⟩
    · refine constI fun _ t3 => spliced_none ⟨F2.st.keep, ?_⟩
      have F3 := F2.toks t3
      obtain ⟨G', S', k', back⟩ := F3.call (Y := [])
      refine letters_c hfb (R.less (by omega)) S' fun s4 la lvs ls lk hI h1 h2 h3 S4 => stF (back _ _ S4) fun s5 F5 => ?_
      obtain ⟨G5, hG5, hla, F6⟩ := (F5.weaken (ms' := ([("script", .ref sc), ("letters", .ref la)] : List (Str × Value))) (by walk_at "cov")).freeze
      exact ⟨rfl, G5, la, lvs, lk, ls, hG5, hla, hI, h1, h2, h3, F6⟩
  rintro s1 ⟨G1, la, lvs, lk, ls, hG1, hla, hlI, hl1, hl4, hld, F1⟩
  clear F
  -- starts = ..
  refine seqF (fun s => ∃ G' sa vs k ns, Sub G1 G' ∧ G'.get? sa = some (listOf (List.toArray vs) k) ∧ IntsAre vs ns ∧ ns ≠ [] ∧ ns.length ≤ 7 ∧ (∀ n ∈ ns, Small n) ∧ FS P G' L [("letters", .ref la), ("starts", .ref sa)] [] s) ?_ ?_
  · refine wpAny_Assign_Name <| callD F1 (by decide) fun fb hfb => spliced_more <| sliceK (P := P) <| ldF F1 rfl <| wpAny_evalPart_some <| constI fun u2 t2 => wpAny_evalPart_some <| constI fun u3 t3 =>
      ⟨sc, svs, some 1, some 7, G1, _, _, rfl, isList_sub F1.st.keep (isList_sub hG1 hs), by omega, .int _ _, .int _ _, F1.toks t3, fun l' s4 F4 => ?_⟩
    have hpick := hsI.pick (some 1) (some 7) none
    have hp6 := slice_le svs
    obtain ⟨G2, hG2, hl', F5⟩ := F4.freeze
    refine spliced_none ⟨fun b o e => F5.st.keep b o (hG2 b o e), ?_⟩
    obtain ⟨G', S', k', back⟩ := F5.call (Y := [])
    have hl2 : G2.get? l' = some (listOf (slicePick svs.toArray (some 1) (some 7) none).toList.toArray 0) := by simpa using hl'
    refine starts_c hfb (R.less (by omega)) S' (k' _ _ hl2) hpick (by omega) fun s6 sa vs ns k hI h1 h2 h3 S6 => stF (back _ _ S6) fun s7 F7 => ?_
    obtain ⟨G5, hG5, hsa, F8⟩ := (F7.weaken (ms' := ([("letters", .ref la), ("starts", .ref sa)] : List (Str × Value))) (by walk_at "cov")).freeze
    exact ⟨rfl, G5, sa, vs, k, ns, fun b o e => hG5 b o (hG2 b o e), hsa, hI, h1, by omega, h3, F8⟩
  rintro s2 ⟨G2, sa, tvs, sk, S, hG2, hsa, hSI, hS1, hS7, hSS, F2⟩
  clear F1
  have hla2 := hG2 _ _ hla
  have hS0 : ∀ n ∈ S, n ≠ 0 := fun n hn => (hSS n hn).1
  -- told = ..
  refine seqF (fun s => ∃ G' ta tv k T H, Sub G2 G' ∧ G'.get? ta = some (listOf (List.toArray tv) k) ∧ All2 (RepL G') tv T ∧ Trace ls S T H ∧ T.length = 12 ∧ Good S.length 12 H ∧ FS P G' L [("letters", .ref la), ("starts", .ref sa), ("told", .ref ta)] [] s) ?_ ?_
  · refine wpAny_Assign_Name <| callD F2 (by decide) fun fb hfb => spliced_more <| ldF F2 rfl <| spliced_more <| ldF F2 rfl <| spliced_none ⟨F2.st.keep, ?_⟩
    obtain ⟨G₀, S0, k0, back⟩ := F2.callG
    refine told_c hfb (R.less (by omega)) S0 (k0 _ _ hsa) hSI hS1 (by omega) hSS (k0 _ _ hla2) hlI hl1 hl4 hld fun s3 G' ta tv T H k hG' htr hTl hgd hA S3 => ?_
    obtain ⟨G3, hG3, F3, tr⟩ := back _ _ _ hG' S3
    refine stF F3 fun s4 F4 => ?_
    obtain ⟨G5, hG5, hta, F6⟩ := (F4.weaken (ms' := ([("letters", .ref la), ("starts", .ref sa), ("told", .ref ta)] : List (Str × Value))) (by walk_at "cov")).freeze
    refine ⟨rfl, G5, ta, tv, k, T, H, fun b o e => hG5 b o (hG3 b o e), hta, hA.mono fun v n => ?_, htr, hTl, hgd, F6⟩
    rintro ⟨b, t1, t2, t3, t4, t5, kk, rfl, hb⟩
    exact ⟨b, t1, t2, t3, t4, t5, kk, rfl, hG5 _ _ (tr b _ hb (fun _ _ e => nomatch e) fun q hq => nomatch hq)⟩
  rintro s3 ⟨G3, ta, tv, tk, T, H, hG3, hta, hTV, htr, hTl, hgd, F3⟩
  clear F2
  have htv := hTV.length
  have told := htr.told hld hS0
  have hTb : ∀ x ∈ T, (word x.natAbs).length ≤ 17 := fun x hx => by
    obtain ⟨y, hy⟩ := List.exists_mem_of_ne_nil _ hgd.ne
    have h1 := rank_abs (told.below x hx y hy)
    exact word_length_pow 17 x.natAbs (Nat.lt_of_le_of_lt h1 (hgd.num y hy).2)
  -- if len(told) != 12 or ..
  refine seqF (fun s => FS P G3 L [("letters", .ref la), ("starts", .ref sa), ("told", .ref ta)] [] s) ?_ ?_
  · refine wpAny_If <| isTrue_or <| wpAny_isTrue_Compare1 <| callB F3 bi_len (by decide) <| spliced_more <| ldF F3 rfl <| spliced_none <| lenL (F3.st.keep _ _ hta) (by omega) fun u4 t4 => constI fun u5 t5 => ne_int <| wpAny_truthy_bool ?_
    rw [if_neg (by rw [htv, hTl]; decide)]
    have F5 := F3.toks t5
    refine isTrue_or <| wpAny_isTrue_Compare1 <| callD F5 (by decide) fun fb hfb => spliced_more <| constI fun u6 t6 => spliced_none ⟨F5.st.keep, ?_⟩
    have F6 := F5.toks t6
    obtain ⟨G', S', k', back⟩ := F6.call (Y := [])
    refine int2ap_c hfb (R.less (by omega)) S' (by rw [show Int.natAbs 0 = 0 from rfl, word_zero]; decide) fun s7 t7 S7 => Constant_bytes <| ne_bytes <| wpAny_truthy_bool ?_
    rw [if_neg (by rw [show Int.natAbs 0 = 0 from rfl, word_zero]; decide)]
    refine isTrue_or_nil ?_
    rw [if_neg Bool.false_ne_true]
    exact wpAny_execs_nil ⟨rfl, (back _ _ S7).toks _⟩
  intro s4 F4
  clear F3
  -- for size, number, count, word, sign in told
  refine seqF (fun s => ∃ G', Sub G3 G' ∧ FS P G' L [("letters", .ref la), ("starts", .ref sa), ("told", .ref ta)] [] s) ?_ ?_
  · refine forTupF (P := P) R.handled <| ldF F4 rfl ⟨ta, tv, tk, G3, _, _, rfl, hta, F4, fun i G' ms' X' => ms' = ([("letters", .ref la), ("starts", .ref sa), ("told", .ref ta)] : List (Str × Value)) ∧ X' = [], ⟨rfl, rfl⟩, ?_, ?_⟩
    · rintro i v G' ms' X' s5 I o' hv hG' ⟨rfl, rfl⟩ F5
      obtain ⟨x, hx, b, t1, t2, t3, t4, t5, kk, rfl, hb⟩ := hTV.get i v hv
      have hxw := hTb x (List.mem_of_getElem? hx)
      refine unpackL R.handled F5 (F5.st.keep _ _ (hG' _ _ hb)) rfl rfl fun s6 F6 => ?_
      refine wpAny_assignInOrder_more <| wpAny_assign_Name <| stF F6 fun s7 F7 => wpAny_assignInOrder_more <| wpAny_assign_Name <| stF F7 fun s8 F8 => wpAny_assignInOrder_more <| wpAny_assign_Name <| stF F8 fun s9 F9 =>
        wpAny_assignInOrder_more <| wpAny_assign_Name <| stF F9 fun s10 F10 => wpAny_assignInOrder_more <| wpAny_assign_Name <| stF F10 fun s11 F11 => wpAny_assignInOrder_none ?_
      clear F5 F6 F7 F8 F9 F10
      refine seqF (fun s => FS P G' L [("letters", .ref la), ("starts", .ref sa), ("told", .ref ta), ("number", .int x t2), ("sign", .int (sgn x) t5)] [(I, o')] s) ?_ ?_
      · refine wpAny_If <| isTrue_or <| wpAny_isTrue_Compare1 <| callD F11 (by decide) fun fb hfb => spliced_more <| ldF F11 rfl <| spliced_none ⟨F11.st.keep, ?_⟩
        obtain ⟨G'', S', k', back⟩ := F11.call (Y := [])
        refine int2ap_c hfb (R.less (by omega)) S' (by omega) fun s12 t12 S12 => ?_
        have F12 := back _ _ S12
        refine ldF F12 rfl <| ne_bytes <| wpAny_truthy_bool ?_
        rw [if_neg (by simp)]
        refine isTrue_or <| wpAny_isTrue_Compare1 <| callB F12 bi_len (by decide) <| spliced_more <| ldF F12 rfl <| spliced_none <| lenB (by omega) fun u13 t13 => ?_
        have F13 := F12.toks t13
        refine ldF F13 rfl <| ne_int <| wpAny_truthy_bool ?_
        rw [if_neg (by simp)]
        refine isTrue_or_nil ?_
        rw [if_neg Bool.false_ne_true]
        exact wpAny_execs_nil ⟨rfl, F13.weaken (by walk_at "cov")⟩
      intro s12 F12
      clear F11
      refine seqF (fun s => FS P G' L [("letters", .ref la), ("starts", .ref sa), ("told", .ref ta)] [(I, o')] s) ?_ ?_
      · refine wpAny_If <| wpAny_isTrue_Compare1 <| ldF F12 rfl <| IfExp_ <| wpAny_isTrue_Compare1 <| ldF F12 rfl <| constI fun _ t13 => gt_int <| wpAny_truthy_bool <| sgn_ite fun u14 t14 => ne_int <| wpAny_truthy_bool ?_
        rw [if_neg (by simp)]
        exact wpAny_execs_nil ⟨rfl, (F12.toks t14).weaken (by walk_at "cov")⟩
      intro s13 F13
      exact wpAny_execs_nil ⟨G', _, _, fun _ _ e => e, ⟨rfl, rfl⟩, F13⟩
    · rintro G' ms' X' s5 hG' ⟨rfl, rfl⟩ F5
      exact ⟨rfl, G', hG', F5⟩
  rintro s5 ⟨G4, hG4, F5⟩
  clear F4
  have hla4 := hG4 _ _ (hG3 _ _ hla2)
  have hsa4 := hG4 _ _ (hG3 _ _ hsa)
  have hta4 := hG4 _ _ hta
  have hTV4 := hTV.mono (RepL.mono hG4)
  obtain ⟨T', z, hTz⟩ := last_split (T := T) (by intro e; subst e; simp at hTl)
  obtain ⟨few1, few2, few3⟩ := reached_few hld hS0 htr (z := z) (by rw [hTz]; simp)
  have hfl := few1.length_eq
  simp only [List.length_append] at hfl
  have hHl := hgd.len
  -- due = ..
  refine seqF (fun s => ∃ G' da dv k ns, Sub G4 G' ∧ G'.get? da = some (listOf (List.toArray dv) k) ∧ All2 (RepN G') dv ns ∧ ns.take 12 = T ∧ ns.length ≤ 63 ∧ FS P G' L [("told", .ref ta), ("due", .ref da)] [] s) ?_ ?_
  · obtain ⟨tv', zv, htz, _, hzv⟩ := (show All2 (RepL G4) tv (T' ++ [z]) from hTz ▸ hTV4).unsnoc
    obtain ⟨zb, z1, z2, z3, z4, z5, zk, rfl, hzb⟩ := hzv
    refine wpAny_Assign_Name <| callD F5 (by decide) fun fb hfb => spliced_more <| ldF F5 rfl <| spliced_more <| ldF F5 rfl <| spliced_more <| Subscript_ <| Subscript_ <| ldF F5 rfl <| wpAny_UnaryOp <| constI fun _ t6 => negI fun u7 t7 => subLast (F5.st.keep _ _ (htz ▸ hta4)) <| constI fun _ t8 => ?_
    have F8 := F5.toks t8
    refine subN (j := 0) (F8.st.keep _ _ hzb) (by simp) (by simp) <| spliced_none ⟨F8.st.keep, ?_⟩
    obtain ⟨G₀, S0, k0, back⟩ := F8.callG
    show wpAny (model prog w) _ (call (.ref fb) [.ref sa, .ref la, .int (z.natAbs : Int) z1]) _ _ _
    refine due_c hfb (R.less (by omega)) S0 (k0 _ _ hsa4) hSI (by omega) hS0 (k0 _ _ hla4) hlI hl4 hld (by omega) (by omega) fun s9 G' da dv ns k hG' hA hpm hpw S9 => ?_
    obtain ⟨G6, hG6, F9, tr⟩ := back _ _ _ hG' S9
    refine stF F9 fun s10 F10 => ?_
    obtain ⟨G7, hG7, hda, F11⟩ := (F10.weaken (ms' := ([("told", .ref ta), ("due", .ref da)] : List (Str × Value))) (by walk_at "cov")).freeze
    have hnl := hpm.length_eq
    refine ⟨rfl, G7, da, dv, k, ns, fun b o e => hG7 b o (hG6 b o e), hda, hA.mono fun v n => ?_, ?_, by omega, F11⟩
    · rintro ⟨b, t1, t2, kk, rfl, hb⟩
      exact ⟨b, t1, t2, kk, rfl, hG7 _ _ (tr b _ hb (fun _ _ e => nomatch e) fun q hq => nomatch hq)⟩
    · have := sorted_prefix T _ ns hpw (hpm.trans few1) told.sorted few2
      rwa [hTl] at this
  rintro s6 ⟨G6, da, dv, dk, ns, hG6, hda, hDV, hnsT, hnl, F6⟩
  clear F5
  have hdl := hDV.length
  -- return [..] == due[:12]
  refine wpAny_execs_cons <| wpAny_Return_some <| wpAny_Compare1 <| compE (P := P) R.handled [] rfl <| ldF F6 rfl ⟨ta, tv, tk, G6, _, _, fun i G' acc => All2 (RepN G') acc (T.take i), rfl, hG6 _ _ hta4, by omega, F6, ⟨.nil, ?_⟩, ?_⟩
  · intro i v G' acc C oC D k I o' s1 hv hG hJ hN F1
    obtain ⟨x, hx, b, t1, t2, t3, t4, t5, kk, rfl, hb⟩ := hTV4.get i v hv
    refine tests_nil ?_
    rw [if_pos rfl]
    refine sliceF (P := P) <| ldC (F1.st.has _ (.head _)) hN rfl <| wpAny_evalPart_none <| wpAny_evalPart_some <| constI fun u7 t7 =>
      ⟨b, _, kk, none, some 2, G', _, _, rfl, F1.st.keep _ _ (hG _ _ (hG6 _ _ hb)), by simp, .none, .int _ _, F1.toks t7, fun l' s8 F8 => ?_⟩
    obtain ⟨G'', hG'', hl', F9⟩ := F8.freeze
    refine ⟨G'', hG'', ?_, F9⟩
    rw [take_snoc hx]
    refine (hJ.mono (RepN.mono hG'')).snoc ⟨l', t1, t2, 0, rfl, ?_⟩
    rw [hl', show (some (2 : Int)) = some ((2 : Nat) : Int) from rfl, slicePick_upto']
    rfl
  · intro G' acc k D s7 hG' hJ F7
    rw [List.take_of_length_le (by omega)] at hJ
    have hal := hJ.length
    refine sliceF (P := P) <| ldF F7 rfl <| wpAny_evalPart_none <| wpAny_evalPart_some <| constI fun u8 t8 =>
      ⟨da, dv, dk, none, some 12, G', _, _, rfl, F7.st.keep _ _ (hG' _ _ hda), by omega, .none, .int _ _, F7.toks t8, fun l' s9 F9 => ?_⟩
    have hA2 : All2 (RepN G') (dv.take 12) T := by
      have := (hDV.mono (RepN.mono hG')).take 12
      rwa [hnsT] at this
    have hl9 := F9.st.has _ (.head _)
    rw [show (some (12 : Int)) = some ((12 : Nat) : Int) from rfl, slicePick_upto'] at hl9
    have hD9 := F9.st.has _ (.tail _ (.head _))
    have hl2 := hA2.length
    refine eq_listAt (e := fun _ => true) (PySem.IsL.isList (n := k) hD9) (PySem.IsL.isList (n := 0) hl9) (by simp; simp at hl2; omega) (by have := R.units; omega) (fun j h1 h2 => ?_) ?_
    · have hj : j < acc.length := by simpa using h1
      obtain ⟨x, hx, r1⟩ := hJ.get j _ (List.getElem?_eq_getElem hj)
      obtain ⟨y, hy, r2⟩ := hA2.get j _ (List.getElem?_eq_getElem (by omega))
      rw [hx] at hy
      cases hy
      simp only [List.getElem_toArray]
      exact eqN (by have := R.units; show A'.units + 1 < cLine; omega) F9.st.keep r1 r2
    · rw [show (List.range acc.toArray.size).all (fun _ => true) = true by simp]
      exact h _ G' (fun b o e => hG' b o (hG6 b o (hG4 b o (hG3 b o (hG2 b o (hG1 b o e)))))) F9.drop.drop.st
end
end Mine

namespace Mine
theorem wd_of_top {p : Program} {loose : List Str} {mean : ExcName → Option Value} {mg mb : Str → Option Value} {h : Heap} {os : OsState} (T : Top p loose mean mg mb h) (e : recsOf p = defs)
    (hx : (biNames.all fun x => !(startupNames.contains x) && !(loose.contains x) && !(((recsOf p).map (·.name)).contains x) && !(((litsOf p).map (·.1)).contains x) && !(((clssOf p loose).map (·.name)).contains x) && (x != ("__name__" : Str))) = true) : Wd ⟨mg, mb, os⟩ h where
  g := T.g
  b := T.b
  nolimit := T.nolimit
  fn := fun d hd => T.fn d (e ▸ hd)
  bi := fun x hx' => by
    have := List.all_eq_true.mp hx x hx'
    simp only [Bool.and_eq_true, Bool.not_eq_true', List.contains_eq_mem, decide_eq_false_iff_not, bne_iff_ne] at this
    obtain ⟨⟨⟨⟨⟨h1, h2⟩, h3⟩, h4⟩, h5⟩, h6⟩ := this
    exact ⟨T.free x h1 h2 h3 h4 h5, T.builtins x h6⟩
theorem room_caller : Room callerA 14 := ⟨by decide +kernel, by decide +kernel, rfl⟩
end Mine

set_option maxRecDepth 100000 in
set_option maxHeartbeats 8000000 in
theorem PySem.Challenge.cw_mr0119_01_holds : PySem.Challenge.rw_mr0119_01.Holds := by
  w_on
  o_law
  k_head
  (case hw => w_witness2)
  intro w s₀ s₁ mg mb G Y fa o pm cd doc dV kV ho hd hcd hD hmg hg args vals as hpre hlay hrd hwl hlo
  have T := G.T
  have W : Mine.Wd ⟨mg, mb, s₁.os⟩ s₁.heap := Mine.wd_of_top T (by kernel_rfl) (by decide +kernel)
  have hmg' : mg (Str.ofString "law") = some (Value.ref fa) := hmg
  clear T Y hd hcd hD hmg ho G
  wrow_args hpre hlay hrd hwl hlo
  rename_i ns h1 h2 h3 h4 h5 a4 a3 sc vs a0 hL ra w1 r0 hI hr hcond htr
  have hlen : vs.length ≤ 1000 := by
    have e := hI.length
    omega
  refine Mine.law_c (P := ⟨mg, mb, s₁.os⟩) (G := s₁.heap) hmg' Mine.room_caller ⟨W, fun _ _ e => e, (fun q hq => nomatch hq), (fun q hq => nomatch hq), List.nodup_nil, hg, rfl⟩ hL hI hlen fun s' G' hG' S' => ?_
  have keep : ∀ b o, s₁.heap.get? b = some o → s'.heap.get? b = some o := fun b o e => S'.keep b o (hG' b o e)
  refine GoodW.toG ⟨.inl ⟨_, .bool true, [], rfl, fun _ => rfl, .bool true, ?hp, fun _ => ⟨List.nodup_nil, fun a ha => nomatch ha⟩⟩, keep, S'.os, S'.gens⟩
  wrow_post
