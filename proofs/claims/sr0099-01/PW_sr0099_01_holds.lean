import PyProof.Rows.All
import Wide.All
import OpenK.AllK
import Wide.FinOn
import PySem.Challenge.RW_sr0099_01
set_option Elab.async false
set_option rowWalk.seconds 0
namespace Mine
section
open PySem PySem.W PyProof.Rows
set_option maxRecDepth 100000 in
set_option maxHeartbeats 8000000 in
open_top hd for PySem.Challenge.rw_sr0099_01
set_option maxRecDepth 100000 in
theorem warm (w : World) : hd.heap_39 w.params = hd.heap_39 w.params ∧ PySem.Challenge.rw_sr0099_01 = PySem.Challenge.rw_sr0099_01 := by
  w_top off
  k_fill
  exact ⟨rfl, rfl⟩
end
section
abbrev Run := Int × Nat
def expand (R : List Run) : List Int := R.flatMap fun p => List.replicate p.2 p.1
theorem expand_nil : expand [] = [] := rfl
theorem expand_cons (r : Int) (c : Nat) (R : List Run) : expand ((r, c) :: R) = List.replicate c r ++ expand R := rfl
theorem expand_append (R S : List Run) : expand (R ++ S) = expand R ++ expand S := by simp [expand]

/-- the function's merge, on ranks -/
def dropEq (e : Int) (xs : List Int) : List Int := xs.dropWhile (fun x => x == e)
theorem dropEq_le (e : Int) (xs : List Int) : (dropEq e xs).length ≤ xs.length := by
  unfold dropEq
  induction xs with
  | nil => simp
  | cons x xs ih => rw [List.dropWhile_cons]; split <;> simp <;> omega
def sld (xs ys : List Int) : List Int × List Int :=
  match xs, ys with
  | [], ys => ([], ys)
  | x :: xs, [] => (x :: xs, [])
  | x :: xs, y :: ys =>
    if x < y then let p := sld (dropEq x xs) (y :: ys); (x :: p.1, p.2)
    else if y < x then let p := sld (x :: xs) (dropEq y ys); (p.1, y :: p.2)
    else sld (dropEq x xs) (dropEq y ys)
termination_by xs.length + ys.length
decreasing_by
  all_goals
    have h1 := dropEq_le x xs
    have h2 := dropEq_le y ys
    simp only [List.length_cons]; omega

/-- the merge by runs -/
def sldR : List Run → List Run → List Int × List Int
  | [], S => ([], expand S)
  | R, [] => (expand R, [])
  | (r, c) :: R, (s, d) :: S =>
    if r < s then let p := sldR R ((s, d) :: S); (r :: p.1, p.2)
    else if s < r then let p := sldR ((r, c) :: R) S; (p.1, s :: p.2)
    else sldR R S
termination_by R S => R.length + S.length

def Good : List Run → Prop
  | [] => True
  | (r, c) :: R => 1 ≤ c ∧ (∀ q ∈ R.head?, q.1 ≠ r) ∧ Good R

theorem dropEq_replicate (c : Nat) (r : Int) (zs : List Int) : dropEq r (List.replicate c r ++ zs) = dropEq r zs := by
  induction c with
  | zero => simp
  | succ c ih => rw [List.replicate_succ, List.cons_append, dropEq, List.dropWhile_cons]; simp only [beq_self_eq_true, if_true]; exact ih
theorem dropEq_expand {r : Int} {R : List Run} (g : Good R) (h : ∀ q ∈ R.head?, q.1 ≠ r) : dropEq r (expand R) = expand R := by
  cases R with
  | nil => rfl
  | cons q R =>
    obtain ⟨s, d⟩ := q
    obtain ⟨g1, _, _⟩ := g
    obtain ⟨d', rfl⟩ : ∃ d', d = d' + 1 := ⟨d - 1, by omega⟩
    have hs : s ≠ r := h (s, d' + 1) (by simp)
    rw [expand_cons, List.replicate_succ, List.cons_append, dropEq, List.dropWhile_cons]
    simp [hs]
theorem sld_nil (ys : List Int) : sld [] ys = ([], ys) := by rw [sld]
theorem sld_nil_right (xs : List Int) : sld xs [] = (xs, []) := by cases xs <;> rw [sld]
theorem sld_cons (x : Int) (xs : List Int) (y : Int) (ys : List Int) : sld (x :: xs) (y :: ys) =
    if x < y then (x :: (sld (dropEq x xs) (y :: ys)).1, (sld (dropEq x xs) (y :: ys)).2)
    else if y < x then ((sld (x :: xs) (dropEq y ys)).1, y :: (sld (x :: xs) (dropEq y ys)).2)
    else sld (dropEq x xs) (dropEq y ys) := by rw [sld]
theorem sldR_nil (S : List Run) : sldR [] S = ([], expand S) := by rw [sldR]
theorem sldR_nil_right (R : List Run) : sldR R [] = (expand R, []) := by cases R <;> rw [sldR] <;> simp [expand]
theorem sldR_cons (r : Int) (c : Nat) (R : List Run) (s : Int) (d : Nat) (S : List Run) : sldR ((r, c) :: R) ((s, d) :: S) =
    if r < s then (r :: (sldR R ((s, d) :: S)).1, (sldR R ((s, d) :: S)).2)
    else if s < r then ((sldR ((r, c) :: R) S).1, s :: (sldR ((r, c) :: R) S).2)
    else sldR R S := by rw [sldR]

theorem sld_expand : ∀ (n : Nat) (R S : List Run), R.length + S.length = n → Good R → Good S → sld (expand R) (expand S) = sldR R S := by
  intro n
  induction n using Nat.strongRecOn with
  | ind n ih =>
    intro R S hn gR gS
    match R, S with
    | [], S => rw [expand_nil, sld_nil, sldR_nil]
    | q :: R, [] => rw [expand_nil, sld_nil_right, sldR_nil_right]
    | (r, c) :: R, (s, d) :: S =>
      simp only [List.length_cons] at hn
      have gR' := gR
      have gS' := gS
      obtain ⟨g1, g2, g3⟩ := gR
      obtain ⟨k1, k2, k3⟩ := gS
      have i1 := ih (R.length + (S.length + 1)) (by omega) R ((s, d) :: S) rfl g3 gS'
      have i2 := ih (R.length + 1 + S.length) (by omega) ((r, c) :: R) S rfl gR' k3
      have i3 := ih (R.length + S.length) (by omega) R S rfl g3 k3
      rw [expand_cons] at i1 i2
      obtain ⟨c', rfl⟩ : ∃ c', c = c' + 1 := ⟨c - 1, by omega⟩
      obtain ⟨d', rfl⟩ : ∃ d', d = d' + 1 := ⟨d - 1, by omega⟩
      rw [expand_cons, expand_cons, sldR_cons]
      rw [List.replicate_succ, List.cons_append] at i1 i2 ⊢
      rw [List.replicate_succ, List.cons_append, sld_cons]
      rw [dropEq_replicate, dropEq_replicate, dropEq_expand g3 g2, dropEq_expand k3 k2, i1, i2, i3]

/-- records above t: (rank, place) -/
def recs : Int → Nat → List Run → List (Int × Nat)
  | _, _, [] => []
  | t, k, (r, _) :: R => if t < r then (r, k) :: recs r (k + 1) R else recs t (k + 1) R
def topOf : Int → List Run → Int
  | t, [] => t
  | t, (r, _) :: R => if t < r then topOf r R else topOf t R
theorem topOf_ge (t : Int) (R : List Run) : t ≤ topOf t R := by
  induction R generalizing t with
  | nil => exact Int.le_refl _
  | cons p R ih =>
    unfold topOf
    split
    · exact Int.le_of_lt (Int.lt_of_lt_of_le ‹_› (ih _))
    · exact ih _
theorem topOf_mem (t : Int) (R : List Run) : ∀ p ∈ R, p.1 ≤ topOf t R := by
  induction R generalizing t with
  | nil => intro p hp; cases hp
  | cons q R ih =>
    intro p hp
    unfold topOf
    rcases List.mem_cons.mp hp with rfl | hp
    · split
      · exact topOf_ge _ _
      · exact Int.le_trans (by omega) (topOf_ge t R)
    · split
      · exact ih _ p hp
      · exact ih _ p hp
/-- the rest told: once till the first above, then whole -/
def restOf (o : Int) : List Run → List Int
  | [] => []
  | (r, c) :: R => if o < r then expand ((r, c) :: R) else r :: restOf o R

theorem restOf_cons (o r : Int) (c : Nat) (R : List Run) : restOf o ((r, c) :: R) = if o < r then expand ((r, c) :: R) else r :: restOf o R := rfl
theorem recs_ranks_gt {t : Int} {k : Nat} {R : List Run} {x : Int × Nat} (h : x ∈ recs t k R) : t < x.1 := by
  induction R generalizing t k with
  | nil => cases h
  | cons p R ih =>
    unfold recs at h
    split at h
    · rcases List.mem_cons.mp h with rfl | h
      · assumption
      · exact Int.lt_trans ‹_› (ih h)
    · exact ih h

/-- the set of the records' ranks -/
def rankSet (t : Int) (R : List Run) (x : Int) : Prop := ∃ k, (x, k) ∈ recs t 0 R
theorem recs_shift (t : Int) (k : Nat) (R : List Run) : recs t k R = (recs t 0 R).map fun p => (p.1, p.2 + k) := by
  induction R generalizing t k with
  | nil => rfl
  | cons p R ih =>
    unfold recs
    split
    · rw [ih _ (k + 1), ih _ (0 + 1)]
      simp only [List.map_cons, List.map_map, Nat.zero_add]
      refine congrArg _ (List.map_congr_left fun q _ => ?_)
      show (q.1, q.2 + (k + 1)) = (q.1, q.2 + 1 + k)
      congr 1; omega
    · rw [ih _ (k + 1), ih _ (0 + 1)]
      simp only [List.map_map, Nat.zero_add]
      refine List.map_congr_left fun q _ => ?_
      show (q.1, q.2 + (k + 1)) = (q.1, q.2 + 1 + k)
      congr 1; omega
theorem rankSet_nil (t x : Int) : ¬ rankSet t [] x := fun ⟨_, h⟩ => nomatch h
theorem rankSet_cons (t : Int) (r : Int) (c : Nat) (R : List Run) (x : Int) : rankSet t ((r, c) :: R) x ↔ if t < r then x = r ∨ rankSet r R x else rankSet t R x := by
  unfold rankSet
  rw [recs]
  split
  · constructor
    · rintro ⟨k, h⟩
      rcases List.mem_cons.mp h with h | h
      · exact .inl (congrArg Prod.fst h)
      · rw [recs_shift] at h
        obtain ⟨q, hq, e⟩ := List.mem_map.mp h
        have e1 : q.1 = x := congrArg Prod.fst e
        exact .inr ⟨q.2, by rw [← e1]; exact hq⟩
    · rintro (rfl | ⟨k, h⟩)
      · exact ⟨0, List.mem_cons_self⟩
      · refine ⟨k + 1, List.mem_cons_of_mem _ ?_⟩
        rw [recs_shift]
        exact List.mem_map.mpr ⟨(x, k), h, rfl⟩
  · constructor
    · rintro ⟨k, h⟩
      rw [recs_shift] at h
      obtain ⟨q, hq, e⟩ := List.mem_map.mp h
      have e1 : q.1 = x := congrArg Prod.fst e
      exact ⟨q.2, by rw [← e1]; exact hq⟩
    · rintro ⟨k, h⟩
      refine ⟨k + 1, ?_⟩
      rw [recs_shift]
      exact List.mem_map.mpr ⟨(x, k), h, rfl⟩

/-- no shared rise: the end -/
theorem sldR_end : ∀ (n : Nat) (R S : List Run) (a b : Int), R.length + S.length = n →
    (∀ x, rankSet a R x → ¬ rankSet b S x) →
    (∀ p ∈ R.head?, ∀ q ∈ S.head?, (a < p.1 ∨ a < q.1) ∧ (b < p.1 ∨ b < q.1)) →
    (S = [] → ∀ p ∈ R.head?, b < p.1) → (R = [] → ∀ q ∈ S.head?, a < q.1) →
    sldR R S = (restOf (topOf b S) R, restOf (topOf a R) S) := by
  intro n
  induction n using Nat.strongRecOn with
  | ind n ih =>
    intro R S a b hn hx hM hS hR
    match R, S with
    | [], [] => rw [sldR_nil]; rfl
    | [], (s, d) :: S =>
      have this : a < s := hR rfl (s, d) (by simp)
      rw [sldR_nil, restOf_cons, if_pos (show topOf a [] < s from this)]; rfl
    | (r, c) :: R, [] =>
      have this : b < r := hS rfl (r, c) (by simp)
      rw [sldR_nil_right, restOf_cons, if_pos (show topOf b [] < r from this)]; rfl
    | (r, c) :: R, (s, d) :: S =>
      simp only [List.length_cons] at hn
      have hM' := hM (r, c) (by simp) (s, d) (by simp)
      simp only at hM'
      rw [sldR_cons]
      split
      · rename_i hlt
        have hpk : ¬ topOf b ((s, d) :: S) < r := by
          have := topOf_mem b ((s, d) :: S) (s, d) (by simp)
          simp only at this; omega
        have ha' : topOf a ((r, c) :: R) = topOf (if a < r then r else a) R := by
          rw [topOf]; split <;> rfl
        have key := ih (R.length + (S.length + 1)) (by omega) R ((s, d) :: S) (if a < r then r else a) b rfl ?_ ?_ ?_ ?_
        · rw [key, ha', restOf_cons _ r, if_neg hpk]
        · intro x h1 h2
          refine hx x ?_ h2
          rw [rankSet_cons]
          split
          · rename_i h; rw [if_pos h] at h1; exact .inr h1
          · rename_i h; rw [if_neg h] at h1; exact h1
        · intro p hp q hq
          simp only [List.head?_cons, Option.mem_def, Option.some.injEq] at hq
          subst hq
          refine ⟨.inr ?_, .inr ?_⟩
          · simp only; split <;> omega
          · simp only; omega
        · intro h; cases h
        · intro _ q hq
          simp only [List.head?_cons, Option.mem_def, Option.some.injEq] at hq
          subst hq
          simp only; split <;> omega
      · rename_i hnlt
        split
        · rename_i hlt
          have hpk : ¬ topOf a ((r, c) :: R) < s := by
            have := topOf_mem a ((r, c) :: R) (r, c) (by simp)
            simp only at this; omega
          have hb' : topOf b ((s, d) :: S) = topOf (if b < s then s else b) S := by
            rw [topOf]; split <;> rfl
          have key := ih (R.length + 1 + S.length) (by omega) ((r, c) :: R) S a (if b < s then s else b) rfl ?_ ?_ ?_ ?_
          · rw [key, hb', restOf_cons _ s, if_neg hpk]
          · intro x h1 h2
            refine hx x h1 ?_
            rw [rankSet_cons]
            split
            · rename_i h; rw [if_pos h] at h2; exact .inr h2
            · rename_i h; rw [if_neg h] at h2; exact h2
          · intro p hp q hq
            simp only [List.head?_cons, Option.mem_def, Option.some.injEq] at hp
            subst hp
            refine ⟨.inl ?_, .inl ?_⟩
            · simp only; omega
            · simp only; split <;> omega
          · intro _ q hq
            simp only [List.head?_cons, Option.mem_def, Option.some.injEq] at hq
            subst hq
            simp only; split <;> omega
          · intro h; cases h
        · exfalso
          have e : r = s := by omega
          subst e
          have h1 : a < r := by omega
          have h2 : b < r := by omega
          refine hx r ?_ ?_
          · rw [rankSet_cons, if_pos h1]; exact .inl rfl
          · rw [rankSet_cons, if_pos h2]; exact .inl rfl

/-- up to the least shared rise -/
theorem sldR_meet {l : Int} {c₀ d₀ : Nat} {R₂ S₂ : List Run} : ∀ (n : Nat) (R S : List Run) (a b : Int), R.length + S.length = n →
    (∀ p ∈ R, p.1 < l) → (∀ p ∈ S, p.1 < l) → a < l → b < l →
    (∀ x, rankSet a R x → ¬ rankSet b S x) →
    (∀ p ∈ (R ++ [(l, c₀)]).head?, ∀ q ∈ (S ++ [(l, d₀)]).head?, (a < p.1 ∨ a < q.1) ∧ (b < p.1 ∨ b < q.1)) →
    sldR (R ++ (l, c₀) :: R₂) (S ++ (l, d₀) :: S₂) = (R.map (·.1) ++ (sldR R₂ S₂).1, S.map (·.1) ++ (sldR R₂ S₂).2) := by
  intro n
  induction n using Nat.strongRecOn with
  | ind n ih =>
    intro R S a b hn hR hS hal hbl hx hM
    match R, S with
    | [], [] => rw [List.nil_append, List.nil_append, sldR_cons, if_neg (by omega), if_neg (by omega)]; rfl
    | [], (s, d) :: S =>
      have hs := hS (s, d) (by simp)
      simp only at hs
      rw [List.nil_append, List.cons_append, sldR_cons, if_neg (by omega), if_pos hs]
      have key := ih S.length (by simp only [List.length_cons, List.length_nil] at hn; omega) [] S a (if b < s then s else b) (by simp) (by simp) (fun p hp => hS p (by simp [hp])) hal (by split <;> omega)
        (fun x h => absurd h (rankSet_nil _ _)) ?_
      · rw [List.nil_append] at key
        rw [key]; rfl
      · intro p hp q hq
        simp only [List.nil_append, List.head?_cons, Option.mem_def, Option.some.injEq] at hp
        subst hp
        refine ⟨.inl hal, .inl ?_⟩
        simp only; split <;> omega
    | (r, c) :: R, [] =>
      have hr := hR (r, c) (by simp)
      simp only at hr
      rw [List.nil_append, List.cons_append, sldR_cons, if_pos hr]
      have key := ih R.length (by simp only [List.length_cons, List.length_nil] at hn; omega) R [] (if a < r then r else a) b (by simp) (fun p hp => hR p (by simp [hp])) (by simp) (by split <;> omega) hbl
        (fun x _ h => absurd h (rankSet_nil _ _)) ?_
      · rw [List.nil_append] at key
        rw [key]; rfl
      · intro p hp q hq
        simp only [List.nil_append, List.head?_cons, Option.mem_def, Option.some.injEq] at hq
        subst hq
        refine ⟨.inr ?_, .inr hbl⟩
        simp only; split <;> omega
    | (r, c) :: R, (s, d) :: S =>
      simp only [List.length_cons] at hn
      have hM' := hM (r, c) (by simp) (s, d) (by simp)
      simp only at hM'
      have hr := hR (r, c) (by simp)
      have hs := hS (s, d) (by simp)
      simp only at hr hs
      rw [List.cons_append, List.cons_append, sldR_cons]
      split
      · rename_i hlt
        have key := ih (R.length + (S.length + 1)) (by omega) R ((s, d) :: S) (if a < r then r else a) b rfl (fun p hp => hR p (by simp [hp])) hS (by split <;> omega) hbl ?_ ?_
        · rw [List.cons_append] at key
          rw [key]; rfl
        · intro x h1 h2
          refine hx x ?_ h2
          rw [rankSet_cons]
          split
          · rename_i h; rw [if_pos h] at h1; exact .inr h1
          · rename_i h; rw [if_neg h] at h1; exact h1
        · intro p hp q hq
          simp only [List.cons_append, List.head?_cons, Option.mem_def, Option.some.injEq] at hq
          subst hq
          refine ⟨.inr ?_, .inr ?_⟩
          · simp only; split <;> omega
          · simp only; omega
      · rename_i hnlt
        split
        · rename_i hlt
          have key := ih (R.length + 1 + S.length) (by omega) ((r, c) :: R) S a (if b < s then s else b) rfl hR (fun p hp => hS p (by simp [hp])) hal (by split <;> omega) ?_ ?_
          · rw [List.cons_append] at key
            rw [key]; rfl
          · intro x h1 h2
            refine hx x h1 ?_
            rw [rankSet_cons]
            split
            · rename_i h; rw [if_pos h] at h2; exact .inr h2
            · rename_i h; rw [if_neg h] at h2; exact h2
          · intro p hp q hq
            simp only [List.cons_append, List.head?_cons, Option.mem_def, Option.some.injEq] at hp
            subst hp
            refine ⟨.inl ?_, .inl ?_⟩
            · simp only; omega
            · simp only; split <;> omega
        · exfalso
          have e : r = s := by omega
          subst e
          have h1 : a < r := by omega
          have h2 : b < r := by omega
          refine hx r ?_ ?_
          · rw [rankSet_cons, if_pos h1]; exact .inl rfl
          · rw [rankSet_cons, if_pos h2]; exact .inl rfl
end
section
theorem recs_split {t : Int} {k : Nat} {R : List Run} {l : Int} {k' : Nat} (h : (l, k') ∈ recs t k R) :
    ∃ R₁ c R₂, R = R₁ ++ (l, c) :: R₂ ∧ k' = k + R₁.length ∧ t < l ∧ (∀ p ∈ R₁, p.1 < l) ∧ ∀ x, rankSet t R₁ x → rankSet t R x := by
  induction R generalizing t k with
  | nil => cases h
  | cons q R ih =>
    obtain ⟨r, c⟩ := q
    unfold recs at h
    split at h
    · rename_i htr
      rcases List.mem_cons.mp h with e | h
      · cases e
        exact ⟨[], c, R, rfl, rfl, htr, (fun _ hp => nomatch hp), fun x hx => absurd hx (rankSet_nil _ _)⟩
      · obtain ⟨R₁, c', R₂, e1, e2, e3, e4, e5⟩ := ih h
        refine ⟨(r, c) :: R₁, c', R₂, by rw [e1]; rfl, by simp only [List.length_cons]; omega, Int.lt_trans htr e3, fun p hp => ?_, fun x hx => ?_⟩
        · rcases List.mem_cons.mp hp with rfl | hp
          · exact e3
          · exact e4 p hp
        · rw [rankSet_cons, if_pos htr] at hx ⊢
          exact hx.imp id (e5 x)
    · rename_i htr
      obtain ⟨R₁, c', R₂, e1, e2, e3, e4, e5⟩ := ih h
      refine ⟨(r, c) :: R₁, c', R₂, by rw [e1]; rfl, by simp only [List.length_cons]; omega, e3, fun p hp => ?_, fun x hx => ?_⟩
      · rcases List.mem_cons.mp hp with rfl | hp
        · show r < l; omega
        · exact e4 p hp
      · rw [rankSet_cons, if_neg htr] at hx ⊢
        exact e5 x hx
theorem rankSet_lt {t : Int} {R : List Run} {l x : Int} (hR : ∀ p ∈ R, p.1 < l) (hx : rankSet t R x) : x < l := by
  induction R generalizing t with
  | nil => exact absurd hx (rankSet_nil _ _)
  | cons q R ih =>
    obtain ⟨r, c⟩ := q
    rw [rankSet_cons] at hx
    split at hx
    · rcases hx with rfl | hx
      · exact hR (x, c) (by simp)
      · exact ih (fun p hp => hR p (by simp [hp])) hx
    · exact ih (fun p hp => hR p (by simp [hp])) hx
theorem rankSet_of_recs {t : Int} {k : Nat} {R : List Run} {x : Int} : (∃ j, (x, j) ∈ recs t k R) ↔ rankSet t R x := by
  unfold rankSet
  rw [recs_shift]
  constructor
  · rintro ⟨j, h⟩
    obtain ⟨q, hq, e⟩ := List.mem_map.mp h
    have e1 : q.1 = x := congrArg Prod.fst e
    exact ⟨q.2, by rw [← e1]; exact hq⟩
  · rintro ⟨j, h⟩
    exact ⟨j + k, List.mem_map.mpr ⟨(x, j), h, rfl⟩⟩

def NonNeg (R : List Run) : Prop := ∀ p ∈ R, 0 ≤ p.1
theorem NonNeg.drop {R : List Run} (h : NonNeg R) (i : Nat) : NonNeg (R.drop i) := fun p hp => h p (List.mem_of_mem_drop hp)

theorem meet {H T : List Run} {i j p q : Nat} {l : Int} (hH : NonNeg H) (hp : (l, p) ∈ recs (-1) i (H.drop i)) (hq : (l, q) ∈ recs (-1) j (T.drop j))
    (hmin : ∀ x, rankSet (-1) (H.drop i) x → rankSet (-1) (T.drop j) x → l ≤ x) :
    sldR (H.drop i) (T.drop j) = (((H.drop i).take (p - i)).map (·.1) ++ (sldR (H.drop (p + 1)) (T.drop (q + 1))).1, ((T.drop j).take (q - j)).map (·.1) ++ (sldR (H.drop (p + 1)) (T.drop (q + 1))).2)
      ∧ i ≤ p ∧ p < H.length ∧ j ≤ q ∧ q < T.length := by
  obtain ⟨R₁, c, R₂, e1, e2, e3, e4, e5⟩ := recs_split hp
  obtain ⟨S₁, d, S₂, f1, f2, f3, f4, f5⟩ := recs_split hq
  have hr2 : H.drop (p + 1) = R₂ := by
    rw [show p + 1 = i + (R₁.length + 1) by omega, ← List.drop_drop, e1, show R₁.length + 1 = R₁.length + 1 from rfl, ← List.drop_drop, List.drop_left]; rfl
  have hs2 : T.drop (q + 1) = S₂ := by
    rw [show q + 1 = j + (S₁.length + 1) by omega, ← List.drop_drop, f1, ← List.drop_drop, List.drop_left]; rfl
  have hl1 := congrArg List.length e1
  have hl2 := congrArg List.length f1
  simp only [List.length_drop, List.length_append, List.length_cons] at hl1 hl2
  refine ⟨?_, by omega, by omega, by omega, by omega⟩
  rw [hr2, hs2, e1, f1, show p - i = R₁.length by omega, show q - j = S₁.length by omega, List.take_left, List.take_left]
  have nR : ∀ x ∈ (R₁ ++ [(l, c)]).head?, (-1 : Int) < x.1 := by
    intro x hx
    have : x ∈ R₁ ++ [(l, c)] := List.mem_of_mem_head? hx
    rcases List.mem_append.mp this with h | h
    · have := (hH.drop i) x (by rw [e1]; simp [h]); omega
    · rw [List.mem_singleton.mp h]; exact e3
  refine sldR_meet _ R₁ S₁ (-1) (-1) rfl e4 f4 e3 f3 (fun x h1 h2 => ?_) (fun x hx y _ => ⟨.inl (nR x hx), .inl (nR x hx)⟩)
  have := hmin x (e5 x h1) (f5 x h2)
  have := rankSet_lt e4 h1
  omega
theorem finish {H T : List Run} {i j : Nat} (hH : NonNeg H) (hT : NonNeg T) (hno : ∀ x, rankSet (-1) (H.drop i) x → ¬ rankSet (-1) (T.drop j) x) :
    sldR (H.drop i) (T.drop j) = (restOf (topOf (-1) (T.drop j)) (H.drop i), restOf (topOf (-1) (H.drop i)) (T.drop j)) := by
  have nR : ∀ x ∈ (H.drop i).head?, (-1 : Int) < x.1 := fun x hx => by have := (hH.drop i) x (List.mem_of_mem_head? hx); omega
  have nS : ∀ x ∈ (T.drop j).head?, (-1 : Int) < x.1 := fun x hx => by have := (hT.drop j) x (List.mem_of_mem_head? hx); omega
  exact sldR_end _ _ _ (-1) (-1) rfl hno (fun x hx y _ => ⟨.inl (nR x hx), .inl (nR x hx)⟩) (fun _ => nR) fun _ => nS

/-- the runs, as the law builds them -/
def runStep (rs : List Run) (r : Int) : List Run :=
  match rs.getLast? with
  | none => [(r, 1)]
  | some (q, c) => if q = r then rs.dropLast ++ [(q, c + 1)] else rs ++ [(r, 1)]
def runsOf (xs : List Int) : List Run := xs.foldl runStep []
theorem runStep_new {rs : List Run} {r : Int} (h : ∀ p ∈ rs.getLast?, p.1 ≠ r) : runStep rs r = rs ++ [(r, 1)] := by
  unfold runStep
  cases e : rs.getLast? with
  | none => rw [List.getLast?_eq_none_iff.mp e]; rfl
  | some p =>
    obtain ⟨q, c⟩ := p
    rw [e] at h
    have := h (q, c) rfl
    simp only at this ⊢
    rw [if_neg this]
theorem runStep_again {rs : List Run} {r : Int} {c : Nat} : runStep (rs ++ [(r, c)]) r = rs ++ [(r, c + 1)] := by
  unfold runStep
  simp
theorem good_snoc_iff (rs : List Run) (r : Int) (c : Nat) : Good (rs ++ [(r, c)]) ↔ Good rs ∧ 1 ≤ c ∧ ∀ p ∈ rs.getLast?, p.1 ≠ r := by
  induction rs with
  | nil => simp [Good]
  | cons q rs ih =>
    obtain ⟨s, d⟩ := q
    cases rs with
    | nil =>
      simp only [List.cons_append, List.nil_append, Good, List.head?_cons, Option.mem_def, Option.some.injEq, forall_eq', List.head?_nil, List.getLast?_singleton]
      constructor
      · rintro ⟨h1, h2, h3, _⟩; exact ⟨⟨h1, (fun _ h => nomatch h), trivial⟩, h3, fun h => h2 h.symm⟩
      · rintro ⟨⟨h1, _, _⟩, h3, h4⟩; exact ⟨h1, fun h => h4 h.symm, h3, (fun _ h => nomatch h), trivial⟩
    | cons q' rs' =>
      have e : Good ((s, d) :: (q' :: rs' ++ [(r, c)])) ↔ (1 ≤ d ∧ q'.1 ≠ s ∧ Good (q' :: rs' ++ [(r, c)])) := by
        rw [Good]; simp
      have e' : Good ((s, d) :: (q' :: rs')) ↔ (1 ≤ d ∧ q'.1 ≠ s ∧ Good (q' :: rs')) := by
        rw [Good]; simp
      rw [List.cons_append, e, e', ih]
      rw [List.getLast?_cons_cons]
      constructor
      · rintro ⟨h1, h2, h3, h4, h5⟩; exact ⟨⟨h1, h2, h3⟩, h4, h5⟩
      · rintro ⟨⟨h1, h2, h3⟩, h4, h5⟩; exact ⟨h1, h2, h3, h4, h5⟩
theorem runStep_inv {rs : List Run} {r : Int} {xs : List Int} (g : Good rs) (e : expand rs = xs) : Good (runStep rs r) ∧ expand (runStep rs r) = xs ++ [r] := by
  rcases List.eq_nil_or_concat rs with h | ⟨rs', p, h⟩
  · subst h; subst e
    exact ⟨⟨Nat.le_refl _, (fun _ h => nomatch h), trivial⟩, rfl⟩
  · obtain ⟨q, c⟩ := p
    rw [List.concat_eq_append] at h
    subst h
    rw [good_snoc_iff] at g
    obtain ⟨g1, g2, g3⟩ := g
    by_cases hq : q = r
    · subst hq
      rw [runStep_again]
      refine ⟨(good_snoc_iff _ _ _).mpr ⟨g1, by omega, g3⟩, ?_⟩
      rw [← e, expand_append, expand_append, expand_cons, expand_cons, expand_nil, List.replicate_succ']
      simp
    · rw [runStep_new (by simp [hq])]
      refine ⟨(good_snoc_iff _ _ _).mpr ⟨(good_snoc_iff _ _ _).mpr ⟨g1, g2, g3⟩, Nat.le_refl _, by simp [hq]⟩, ?_⟩
      rw [expand_append, e]; rfl
theorem foldl_runStep (xs : List Int) : ∀ (rs : List Run) (ys : List Int), Good rs → expand rs = ys → Good (xs.foldl runStep rs) ∧ expand (xs.foldl runStep rs) = ys ++ xs := by
  induction xs with
  | nil => intro rs ys g e; exact ⟨g, by rw [List.append_nil]; exact e⟩
  | cons x xs ih =>
    intro rs ys g e
    obtain ⟨g', e'⟩ := runStep_inv (r := x) g e
    have := ih _ _ g' e'
    rw [List.append_assoc] at this
    exact this
theorem runsOf_good (xs : List Int) : Good (runsOf xs) := (foldl_runStep xs [] [] trivial rfl).1
theorem runsOf_expand (xs : List Int) : expand (runsOf xs) = xs := by
  have := (foldl_runStep xs [] [] trivial rfl).2
  rwa [List.nil_append] at this
theorem good_mem_expand {R : List Run} (g : Good R) : ∀ p ∈ R, p.1 ∈ expand R := by
  induction R with
  | nil => intro p hp; cases hp
  | cons q R ih =>
    obtain ⟨r, c⟩ := q
    obtain ⟨g1, _, g3⟩ := g
    intro p hp
    rw [expand_cons]
    rcases List.mem_cons.mp hp with rfl | hp
    · exact List.mem_append_left _ (List.mem_replicate.mpr ⟨by omega, rfl⟩)
    · exact List.mem_append_right _ (ih g3 p hp)
theorem runsOf_nonneg {xs : List Int} (h : ∀ x ∈ xs, 0 ≤ x) : NonNeg (runsOf xs) := fun p hp => h _ (by have := good_mem_expand (runsOf_good xs) p hp; rwa [runsOf_expand] at this)
theorem expand_length_ge {R : List Run} (g : Good R) : R.length ≤ (expand R).length := by
  induction R with
  | nil => simp
  | cons q R ih =>
    obtain ⟨r, c⟩ := q
    obtain ⟨g1, _, g3⟩ := g
    have := ih g3
    rw [expand_cons]
    simp only [List.length_cons, List.length_append, List.length_replicate]; omega
theorem runsOf_length (xs : List Int) : (runsOf xs).length ≤ xs.length := by
  have := expand_length_ge (runsOf_good xs)
  rwa [runsOf_expand] at this
/-- the whole plain law -/
theorem sld_runs (xs ys : List Int) : sld xs ys = sldR (runsOf xs) (runsOf ys) := by
  have := sld_expand _ (runsOf xs) (runsOf ys) rfl (runsOf_good xs) (runsOf_good ys)
  rwa [runsOf_expand, runsOf_expand] at this
theorem sld_symm : ∀ (n : Nat) (xs ys : List Int), xs.length + ys.length = n → sld ys xs = ((sld xs ys).2, (sld xs ys).1) := by
  intro n
  induction n using Nat.strongRecOn with
  | ind n ih =>
    intro xs ys hn
    match xs, ys with
    | [], ys => rw [sld_nil, sld_nil_right]
    | x :: xs, [] => rw [sld_nil, sld_nil_right]
    | x :: xs, y :: ys =>
      simp only [List.length_cons] at hn
      have h1 := dropEq_le x xs
      have h2 := dropEq_le y ys
      rw [sld_cons, sld_cons]
      by_cases a : x < y
      · rw [if_pos a, if_neg (by omega), if_pos a, ih ((dropEq x xs).length + (ys.length + 1)) (by omega) (dropEq x xs) (y :: ys) (by simp)]
      · by_cases b : y < x
        · rw [if_pos b, if_neg a, if_pos b, ih (xs.length + 1 + (dropEq y ys).length) (by omega) (x :: xs) (dropEq y ys) (by simp)]
        · rw [if_neg a, if_neg b, if_neg b, if_neg a, ih ((dropEq x xs).length + (dropEq y ys).length) (by omega) (dropEq x xs) (dropEq y ys) rfl]
theorem recs_snoc (t : Int) (k : Nat) (R : List Run) (r : Int) (c : Nat) : recs t k (R ++ [(r, c)]) = if topOf t R < r then recs t k R ++ [(r, k + R.length)] else recs t k R := by
  induction R generalizing t k with
  | nil => rfl
  | cons p R ih =>
    obtain ⟨q, d⟩ := p
    rw [List.cons_append, recs, recs, topOf]
    by_cases h : t < q
    · rw [if_pos h, if_pos h, if_pos h, ih]
      split
      · rw [List.cons_append, List.length_cons, show k + 1 + R.length = k + (R.length + 1) by omega]
      · rfl
    · rw [if_neg h, if_neg h, if_neg h, ih]
      split
      · rw [List.length_cons, show k + 1 + R.length = k + (R.length + 1) by omega]
      · rfl
theorem recs_length (t : Int) (k : Nat) (R : List Run) : (recs t k R).length ≤ R.length := by
  induction R generalizing t k with
  | nil => exact Nat.le_refl _
  | cons p R ih =>
    obtain ⟨q, d⟩ := p
    rw [recs]
    split
    · have := ih q (k + 1); simp only [List.length_cons]; omega
    · have := ih t (k + 1); simp only [List.length_cons]; omega
theorem topOf_snoc (t : Int) (R : List Run) (r : Int) (c : Nat) : topOf t (R ++ [(r, c)]) = if topOf t R < r then r else topOf t R := by
  induction R generalizing t with
  | nil => rfl
  | cons p R ih =>
    obtain ⟨q, d⟩ := p
    rw [List.cons_append, topOf, topOf]
    by_cases h : t < q
    · rw [if_pos h, if_pos h, ih]
    · rw [if_neg h, if_neg h, ih]
theorem recs_le_top {t : Int} {k : Nat} {R : List Run} {x : Int × Nat} (h : x ∈ recs t k R) : x.1 ≤ topOf t R := by
  induction R generalizing t k with
  | nil => cases h
  | cons p R ih =>
    obtain ⟨q, d⟩ := p
    rw [recs] at h
    rw [topOf]
    split at h
    · rename_i hq
      rw [if_pos hq]
      rcases List.mem_cons.mp h with rfl | h
      · exact topOf_ge _ _
      · exact ih h
    · rename_i hq
      rw [if_neg hq]
      exact ih h
def wholeOf (o : Int) (R : List Run) : Bool := R.any fun p => decide (o < p.1)
theorem wholeOf_snoc (o : Int) (R : List Run) (r : Int) (c : Nat) : wholeOf o (R ++ [(r, c)]) = (wholeOf o R || decide (o < r)) := by
  unfold wholeOf; rw [List.any_append]; simp
theorem restOf_snoc (o : Int) (R : List Run) (r : Int) (c : Nat) : restOf o (R ++ [(r, c)]) = restOf o R ++ (if wholeOf o (R ++ [(r, c)]) = true then List.replicate c r else [r]) := by
  induction R with
  | nil =>
    simp only [List.nil_append, restOf_cons, wholeOf, List.any_cons, List.any_nil, Bool.or_false, decide_eq_true_eq]
    split
    · simp [expand_cons, expand_nil, restOf]
    · simp [restOf]
  | cons p R ih =>
    obtain ⟨q, d⟩ := p
    rw [List.cons_append, restOf_cons, restOf_cons]
    by_cases h : o < q
    · rw [if_pos h, if_pos h, expand_cons, expand_append, expand_cons, expand_cons, expand_nil, if_pos (by simp [wholeOf, h])]
      simp
    · rw [if_neg h, if_neg h, ih]
      have e : wholeOf o ((q, d) :: (R ++ [(r, c)])) = wholeOf o (R ++ [(r, c)]) := by simp [wholeOf, h]
      rw [e]; rfl
theorem restOf_length (o : Int) (R : List Run) : (restOf o R).length ≤ R.length + (expand R).length := by
  induction R with
  | nil => exact Nat.le_refl _
  | cons p R ih =>
    obtain ⟨q, d⟩ := p
    rw [restOf_cons]
    split
    · simp only [List.length_cons]; omega
    · simp only [List.length_cons, expand_cons, List.length_append]; omega
theorem expand_take_le (R : List Run) (j : Nat) : (expand (R.take j)).length ≤ (expand R).length := by
  conv => rhs; rw [← List.take_append_drop j R, expand_append, List.length_append]
  omega
theorem expand_drop_le (R : List Run) (j : Nat) : (expand (R.drop j)).length ≤ (expand R).length := by
  conv => rhs; rw [← List.take_append_drop j R, expand_append, List.length_append]
  omega
end
section
theorem dropEq_sub (e : Int) (xs : List Int) : (dropEq e xs).Sublist xs := List.dropWhile_sublist _
theorem sld_sub : ∀ (n : Nat) (xs ys : List Int), xs.length + ys.length = n → (sld xs ys).1.Sublist xs ∧ (sld xs ys).2.Sublist ys := by
  intro n
  induction n using Nat.strongRecOn with
  | ind n ih =>
    intro xs ys hn
    match xs, ys with
    | [], ys => rw [sld_nil]; exact ⟨.slnil, List.Sublist.refl _⟩
    | x :: xs, [] => rw [sld_nil_right]; exact ⟨List.Sublist.refl _, .slnil⟩
    | x :: xs, y :: ys =>
      have hx := dropEq_le x xs
      have hy := dropEq_le y ys
      simp only [List.length_cons] at hn
      rw [sld_cons]
      split
      · have h := ih _ (by simp only [List.length_cons]; omega) (dropEq x xs) (y :: ys) rfl
        exact ⟨.cons₂ _ (h.1.trans (dropEq_sub x xs)), h.2⟩
      · split
        · have h := ih _ (by simp only [List.length_cons]; omega) (x :: xs) (dropEq y ys) rfl
          exact ⟨h.1, .cons₂ _ (h.2.trans (dropEq_sub y ys))⟩
        · have h := ih _ (by omega) (dropEq x xs) (dropEq y ys) rfl
          exact ⟨.cons _ (h.1.trans (dropEq_sub x xs)), .cons _ (h.2.trans (dropEq_sub y ys))⟩
theorem sld_len (xs ys : List Int) : (sld xs ys).1.length ≤ xs.length ∧ (sld xs ys).2.length ≤ ys.length := ⟨(sld_sub _ xs ys rfl).1.length_le, (sld_sub _ xs ys rfl).2.length_le⟩
theorem sld_mem1 {xs ys : List Int} {r : Int} (h : r ∈ (sld xs ys).1) : r ∈ xs := (sld_sub _ xs ys rfl).1.subset h
theorem sld_mem2 {xs ys : List Int} {r : Int} (h : r ∈ (sld xs ys).2) : r ∈ ys := (sld_sub _ xs ys rfl).2.subset h
end
section
open PySem PySem.W PyProof.Rows PyProof.V PySem.Spec PySem.Calls

def OList (o : Obj) (items : Array Value) : Prop := o.cls = .type "list" ∧ ∃ k, o.data = .seq items k
theorem OList.of (items : Array Value) (n : Nat) : OList (listOf items n) items := ⟨rfl, n, rfl⟩

/-- what a turn of a loop leaves -/
def TurnEnd (base : Heap) (L : Addr) (s : Shared) (ik : Addr × Obj) (fz : List (Addr × Obj)) (J : (Str → Option Value) → List (Addr × Obj) → Prop) (Q : Flow → Shared → Prop) (f : Flow) (s₂ : Shared) : Prop :=
  match f with
  | .ret v => Q (.ret v) s₂
  | .brk => Q .next s₂
  | _ => ∃ h' tk' m' news', s₂ = { s with heap := h', toks := tk' } ∧ Fr base L h' m' ∧ News base L h' (ik :: (news' ++ fz)) ∧ (∀ p ∈ news', p.1 ≠ ik.1) ∧ J m' news'

section
variable {prog : Program} {w : World} {A : Around} {env : Env} {base : Heap} {L : Addr} {s : Shared}

theorem for_walk {Q : Flow → Shared → Prop} {E : Value → Shared → Prop} {target : Expr} {body : List Stmt} {I : Addr} {fp : List Addr} {n : Nat} {P : Nat → Value → Prop} {St : Nat → Heap → Prop}
    {m₀ : Str → Option Value} {news fz : List (Addr × Obj)} (W : Walks prog w A I fp [I] n P St) (J : Nat → (Str → Option Value) → List (Addr × Obj) → Prop)
    (hfp : ∀ b ∈ fp, b = I ∨ (∃ o, base.get? b = some o) ∨ ∃ o, (b, o) ∈ fz) (hStI : ∀ i h, St i h → ∃ o, h.get? I = some o) (hIb : base.get? I = none) (hIL : I ≠ L)
    (hst : St 0 s.heap) (F : Fr base L s.heap m₀) (N : News base L s.heap (news ++ fz)) (hnI : ∀ p ∈ news ++ fz, p.1 ≠ I) (hJ : J 0 m₀ news)
    (turn : ∀ i v m₁ news₁ h tk oI, i < n → P i v → J i m₁ news₁ → (∀ p ∈ news₁ ++ fz, p.1 ≠ I) → Fr base L h m₁ → News base L h ((I, oI) :: (news₁ ++ fz)) →
      wpAny (model prog w) A (assign target env v) (fun _ s₂ => wpAny (model prog w) A (execs body env) (TurnEnd base L s (I, oI) fz (J (i + 1)) Q) E s₂) E { s with heap := h, toks := tk })
    (done : ∀ m₁ news₁ h tk, J n m₁ news₁ → (∀ p ∈ news₁ ++ fz, p.1 ≠ I) → Fr base L h m₁ → News base L h (news₁ ++ fz) → Q .next { s with heap := h, toks := tk })
    (hgo : ∀ (i : Nat) (s' : Shared) (v : Value) (Q' : Unit → Shared → Prop) (E' : Value → Shared → Prop), St i s'.heap → Q' () s' → wpAny (model prog w) A (letOwnedTupleGo target (.ref I) v) Q' E' s') (hE : PassesOwn (model prog w) A env E) :
    codeAny (model prog w) A (.forLoop target (.ref I) body [] env) (fun r s' => match r with | .ok f => Q f s' | .error e => cameBackBy (model prog w) A env E e s') s := by
  refine codeAny_forLoop_any (target := target) (it := .ref I)
    (fun k s' => ∃ h' tk m' news' i, s' = { s with heap := h', toks := tk } ∧ St i h' ∧ Fr base L h' m' ∧ News base L h' (news' ++ fz) ∧ (∀ p ∈ news' ++ fz, p.1 ≠ I) ∧ J i m' news' ∧ i ≤ n ∧ k = n + 1 - i) ?_ (n + 1)
    ⟨s.heap, s.toks, m₀, news, 0, rfl, hst, F, N, hnI, hJ, Nat.zero_le _, rfl⟩
  rintro k s' ⟨h', tk, m', news', i, rfl, hst', F', N', hnI', hJ', hi, rfl⟩
  have next : ∀ h₁ : Heap, (∀ b o, b ∉ [I] → h'.get? b = some o → h₁.get? b = some o) → Fr base L h₁ m' ∧ News base L h₁ (news' ++ fz) := fun h₁ hk₁ =>
    ⟨⟨F'.ns.at' fun o e => hk₁ _ o (by simp [Ne.symm hIL]) e, fun b o e => hk₁ b o (fun q => by rw [List.mem_singleton.mp q, hIb] at e; cases e) (F'.keep b o e), F'.above⟩,
      fun p hp => ⟨hk₁ _ _ (by simp [hnI' p hp]) (N' p hp).1, (N' p hp).2⟩⟩
  by_cases hlt : i < n
  · refine W.item i _ _ _ hlt hst' fun v h₁ tk₁ hP hst₁ hk₁ => ?_
    obtain ⟨F₁, N₁⟩ := next h₁ hk₁
    obtain ⟨oI, hI₁⟩ := hStI _ _ hst₁
    have N₂ : News base L h₁ ((I, oI) :: (news' ++ fz)) := fun p hp => by
      rcases List.mem_cons.mp hp with rfl | hp
      · exact ⟨hI₁, hIL, hIb⟩
      · exact N₁ p hp
    refine hgo (i + 1) _ v _ _ hst₁ ?_
    refine wpAny_passesOwn hE (wpAny_mono (turn i v m' news' h₁ tk₁ oI hlt hP hJ' hnI' F₁ N₂) (fun _ s₂ h₂ => wpAny_passesOwn hE (wpAny_mono h₂ (fun f s₃ h₃ => ?_) fun _ _ x => x)) fun _ _ x => x)
    have fin : (∃ h' tk' m' news', s₃ = { s with heap := h', toks := tk' } ∧ Fr base L h' m' ∧ News base L h' ((I, oI) :: (news' ++ fz)) ∧ (∀ p ∈ news', p.1 ≠ I) ∧ J (i + 1) m' news') →
        ∃ m, m < n + 1 - i ∧ ∃ h' tk m' news' j, s₃ = { s with heap := h', toks := tk } ∧ St j h' ∧ Fr base L h' m' ∧ News base L h' (news' ++ fz) ∧ (∀ p ∈ news' ++ fz, p.1 ≠ I) ∧ J j m' news' ∧ j ≤ n ∧ m = n + 1 - j := by
      rintro ⟨h₃', tk₃, m₂, news₂, rfl, F₃, N₃, hn₃, hJ₃⟩
      have hI₃ : h₃'.get? I = some oI := (N₃ _ List.mem_cons_self).1
      refine ⟨n + 1 - (i + 1), by omega, h₃', tk₃, m₂, news₂, i + 1, rfl, W.frame _ _ _ hst₁ fun b hb o e => ?_, F₃, fun p hp => N₃ p (List.mem_cons_of_mem _ hp), fun p hp => ?_, hJ₃, hlt, rfl⟩
      · rcases hfp b hb with rfl | ⟨o₀, ho₀⟩ | ⟨o₀, ho₀⟩
        · rw [hI₁] at e; cases e; exact hI₃
        · have := F₁.keep b o₀ ho₀
          rw [e] at this; cases this
          exact F₃.keep b _ ho₀
        · have := (N₁ (b, o₀) (List.mem_append_right _ ho₀)).1
          have e' : h₁.get? b = some o₀ := this
          rw [e] at e'; cases e'
          exact (N₃ (b, o) (List.mem_cons_of_mem _ (List.mem_append_right _ ho₀))).1
      · rcases List.mem_append.mp hp with hp | hp
        · exact hn₃ p hp
        · exact hnI' p (List.mem_append_right _ hp)
    cases f with
    | ret v => exact h₃
    | brk => exact h₃
    | next => exact fin h₃
    | cont => exact fin h₃
  · have hin : i = n := by omega
    subst hin
    refine W.done _ _ _ hst' fun h₁ tk₁ hk₁ => wpAny_execs_nil ?_
    obtain ⟨F₁, N₁⟩ := next h₁ hk₁
    exact done m' news' h₁ tk₁ hJ' hnI' F₁ N₁

theorem go_list {target : Expr} {I l : Addr} {i : Nat} {s' : Shared} {v : Value} {Q' : Unit → Shared → Prop} {E' : Value → Shared → Prop} (hit : s'.heap.IsListIter I l i) (hq : Q' () s') :
    wpAny (model prog w) A (letOwnedTupleGo target (.ref I) v) Q' E' s' := by
  obtain ⟨o, ho, hc, hd⟩ := hit
  have key : ∀ r : Addr, wpAny (model prog w) A (do
      let o ← load I
      match o.cls, o.data with
      | .type n, .fields vs =>
        if ["enumerate", "zip", "dict_itemiterator", "dict_reverseitemiterator", "odict_iterator", "itertools.zip_longest", "itertools.pairwise"].contains n && vs[0]? == some (rawInt r) then
          rule "for.unpacks-the-owned-tuple"
          updateField I 0 .none
      | _, _ => pure () : Sem Unit) Q' E' s' := by
    intro r
    refine wpAny_bind (wpAny_load ho ?_)
    rw [hc, hd]
    show wpAny _ A (if (["enumerate", "zip", "dict_itemiterator", "dict_reverseitemiterator", "odict_iterator", "itertools.zip_longest", "itertools.pairwise"].contains "list_iterator" && _) = true then _ else _) _ _ _
    rw [show (["enumerate", "zip", "dict_itemiterator", "dict_reverseitemiterator", "odict_iterator", "itertools.zip_longest", "itertools.pairwise"].contains "list_iterator") = false from by decide, Bool.false_and, if_neg (by decide)]
    exact wpAny_pure hq
  unfold letOwnedTupleGo
  split
  · cases v <;> first | exact wpAny_pure hq | exact key _
  · cases v <;> first | exact wpAny_pure hq | exact key _
  · exact wpAny_pure hq

theorem iter_list {Q : Flow → Shared → Prop} {E : Value → Shared → Prop} {target : Expr} {body : List Stmt} {l : Addr} {items : Array Value}
    {m₀ : Str → Option Value} {news fz : List (Addr × Obj)} (J : Nat → (Str → Option Value) → List (Addr × Obj) → Prop) (hh : A.handled = none)
    (hl : base.IsList l items ∨ ∃ o, (l, o) ∈ fz ∧ OList o items) (F : Fr base L s.heap m₀) (N : News base L s.heap (news ++ fz)) (hJ : J 0 m₀ news)
    (turn : ∀ I oI i v m₁ news₁ h tk, items[i]? = some v → J i m₁ news₁ → (∀ p ∈ news₁ ++ fz, p.1 ≠ I) → Fr base L h m₁ → News base L h ((I, oI) :: (news₁ ++ fz)) →
      wpAny (model prog w) A (assign target env v) (fun _ s₂ => wpAny (model prog w) A (execs body env) (TurnEnd base L s (I, oI) fz (J (i + 1)) Q) E s₂) E { s with heap := h, toks := tk })
    (done : ∀ m₁ news₁ h tk, J items.size m₁ news₁ → Fr base L h m₁ → News base L h (news₁ ++ fz) → Q .next { s with heap := h, toks := tk })
    (hE : PassesOwn (model prog w) A env E) :
    wpAny (model prog w) A (pyIter (.ref l)) (fun it s₂ => codeAny (model prog w) A (.forLoop target it body [] env) (fun r s' => match r with | .ok f => Q f s' | .error e => cameBackBy (model prog w) A env E e s') s₂) E s := by
  have hls : s.heap.IsList l items := by
    rcases hl with hl | ⟨o, hl, ho⟩
    · exact hl.at fun o e => F.keep l o e
    · exact ⟨_, (N _ (List.mem_append_right _ hl)).1, ho.1, ho.2⟩
  refine wpAny_pyIter_list hls ?_
  obtain ⟨ol, hol, _⟩ := id hls
  have hlt := Heap.lt_size hol
  have hne : l ≠ s.heap.objs.size := Nat.ne_of_lt hlt
  have hLs := F.ns.lt
  have W := Walks.list (prog := prog) (w := w) hh s.heap.objs.size l hne items
  refine for_walk W J (fz := fz) (news := news) ?_ (fun i h st => ?_) ?_ ?_ ⟨⟨_, Heap.get?_push_size _ rfl, rfl, rfl⟩, hls.at fun o e => Heap.get?_push_of_some _ e⟩ (F.push _) (fun p hp => ⟨Heap.get?_push_of_some _ (N p hp).1, (N p hp).2⟩) (fun p hp q => ?_) hJ (fun i v m₁ news₁ h tk oI _ hP hJ' hn F₁ N₁ => turn _ oI i v m₁ news₁ h tk hP hJ' hn F₁ N₁) (fun m₁ news₁ h tk hJ' _ F₁ N₁ => done m₁ news₁ h tk hJ' F₁ N₁) (fun i s' v Q' E' st hq => go_list st.1 hq) hE
  · intro b hb
    rcases List.mem_cons.mp hb with rfl | hb
    · exact .inl rfl
    · rw [List.mem_singleton.mp hb]
      rcases hl with ⟨o, ho, _⟩ | ⟨o, hl, ho⟩
      · exact .inr (.inl ⟨o, ho⟩)
      · exact .inr (.inr ⟨_, hl⟩)
  · obtain ⟨o, ho, _⟩ := st.1
    exact ⟨o, ho⟩
  · exact next_is_new F
  · exact Nat.ne_of_gt hLs
  · have := Heap.lt_size (N p hp).1
    rw [q] at this
    exact Nat.lt_irrefl _ this

theorem For_list {Q : Flow → Shared → Prop} {E : Value → Shared → Prop} {target iter : Expr} {body : List Stmt} {pos : Pos} {l : Addr} {items : Array Value}
    {m₀ : Str → Option Value} {news fz : List (Addr × Obj)} (J : Nat → (Str → Option Value) → List (Addr × Obj) → Prop) (hh : A.handled = none)
    (hiter : ∀ Q' E', Q' (.ref l) s → wpAny (model prog w) A (eval iter env) Q' E' s)
    (hl : base.IsList l items ∨ ∃ o, (l, o) ∈ fz ∧ OList o items) (F : Fr base L s.heap m₀) (N : News base L s.heap (news ++ fz)) (hJ : J 0 m₀ news)
    (turn : ∀ I oI i v m₁ news₁ h tk, items[i]? = some v → J i m₁ news₁ → (∀ p ∈ news₁ ++ fz, p.1 ≠ I) → Fr base L h m₁ → News base L h ((I, oI) :: (news₁ ++ fz)) →
      wpAny (model prog w) A (assign target env v) (fun _ s₂ => wpAny (model prog w) A (execs body env) (TurnEnd base L s (I, oI) fz (J (i + 1)) Q) E s₂) E { s with heap := h, toks := tk })
    (done : ∀ m₁ news₁ h tk, J items.size m₁ news₁ → Fr base L h m₁ → News base L h (news₁ ++ fz) → Q .next { s with heap := h, toks := tk })
    (hs : ∀ x, foldedSetIterable iter env x = pure x) (hE : PassesOwn (model prog w) A env E) :
    wpAny (model prog w) A (exec (.For target iter body [] pos) env) Q E s :=
  wpAny_For (hiter _ _ (iter_list J hh hl F N hJ turn done hE)) hs

theorem iter_range {Q : Flow → Shared → Prop} {E : Value → Shared → Prop} {target : Expr} {body : List Stmt} {r : Addr} {a b : Int} {t u v : Tok}
    {m₀ : Str → Option Value} {news fz : List (Addr × Obj)} (J : Nat → (Str → Option Value) → List (Addr × Obj) → Prop) (hh : A.handled = none)
    (hr : IsRange s.heap r a b 1 t u v) (ha : 0 ≤ a) (ha' : a ≤ 1000) (hb' : 0 ≤ b) (hb : b ≤ 1000) (F : Fr base L s.heap m₀) (N : News base L s.heap (news ++ fz)) (hJ : J 0 m₀ news)
    (turn : ∀ I oI (i : Nat) tt m₁ news₁ h tk, i < (b - a).toNat → J i m₁ news₁ → (∀ p ∈ news₁ ++ fz, p.1 ≠ I) → Fr base L h m₁ → News base L h ((I, oI) :: (news₁ ++ fz)) →
      wpAny (model prog w) A (assign target env (.int (a + (i : Int)) tt)) (fun _ s₂ => wpAny (model prog w) A (execs body env) (TurnEnd base L s (I, oI) fz (J (i + 1)) Q) E s₂) E { s with heap := h, toks := tk })
    (done : ∀ m₁ news₁ h tk, J (b - a).toNat m₁ news₁ → Fr base L h m₁ → News base L h (news₁ ++ fz) → Q .next { s with heap := h, toks := tk })
    (hE : PassesOwn (model prog w) A env E) (htt : ∀ I v, letOwnedTupleGo target (.ref I) v = pure ()) :
    wpAny (model prog w) A (pyIter (.ref r)) (fun it s₂ => codeAny (model prog w) A (.forLoop target it body [] env) (fun r s' => match r with | .ok f => Q f s' | .error e => cameBackBy (model prog w) A env E e s') s₂) E s := by
  have hsz : Builtin.Range.rangeSize a b 1 = (((b - a).toNat : Nat) : Int) := by
    unfold Builtin.Range.rangeSize
    simp only [gt_iff_lt, Int.zero_lt_one, if_true, Int.ediv_one]
    split <;> omega
  have hsm : Builtin.Range.small a b 1 = true := by
    unfold Builtin.Range.small
    rw [hsz]
    simp only [Builtin.Range.rangeFitsLong, Bool.and_eq_true, Bool.or_eq_true, decide_eq_true_eq, gt_iff_lt, Int.zero_lt_one, if_true]
    omega
  refine wpAny_pyIter_range hr hsm ?_
  have W := Walks.range (prog := prog) (w := w) hh s.heap.objs.size a 1 (b - a).toNat
  have hLs := F.ns.lt
  refine for_walk W J (fz := fz) (news := news) ?_ (fun i h st => ⟨_, st⟩) ?_ ?_ (by show IsRangeIter _ _ _ _ _; rw [hsz]; simpa using Heap.get?_push_size _ rfl) (F.push _) (fun p hp => ⟨Heap.get?_push_of_some _ (N p hp).1, (N p hp).2⟩) (fun p hp q => ?_) hJ (fun i v m₁ news₁ h tk oI hi hP hJ' hn F₁ N₁ => ?_) (fun m₁ news₁ h tk hJ' _ F₁ N₁ => done m₁ news₁ h tk hJ' F₁ N₁) (fun i s' v Q' E' st hq => by rw [htt]; exact wpAny_pure hq) hE
  · intro b hb
    exact .inl (List.mem_singleton.mp hb)
  · exact next_is_new F
  · exact Nat.ne_of_gt hLs
  · have := Heap.lt_size (N p hp).1
    rw [q] at this
    exact Nat.lt_irrefl _ this
  · obtain ⟨tt, rfl⟩ := hP
    rw [Int.mul_one]
    exact turn _ oI i tt m₁ news₁ h tk hi hJ' hn F₁ N₁
end

section
variable {prog : Program} {w : World} {A : Around} {E : Value → Shared → Prop} {s : Shared}
theorem tail_pos {value slice : Expr} {a : Addr} {items : Array Value} {k : Int} {u : Tok} {x : Value} {Q : Value → Shared → Prop} (hl : s.heap.IsList a items)
    (h0 : 0 ≤ k) (hfit : k < 2 ^ 63) (hx : items[k.toNat]? = some x) (h : Q x s)
    (hs : subscripted slice false (.ref a) (.int k u) = operate [.ref a, .int k u] (getItem (.ref a) (.int k u))) : wpAny (model prog w) A (subscriptTail value slice (.ref a) (.int k u)) Q E s :=
  tail_any hl.typeIs slot_list_getitem.lookup (wpAny_getItem_list hl h0 hfit hx h) hs
theorem tail_neg {value slice : Expr} {a : Addr} {items : Array Value} {k : Int} {u : Tok} {x : Value} {Q : Value → Shared → Prop} (hl : s.heap.IsList a items)
    (h0 : k < 0) (h1 : -(items.size : Int) ≤ k) (hfit : -(2 ^ 63) ≤ k) (hx : items[(k + items.size).toNat]? = some x) (h : Q x s)
    (hs : subscripted slice false (.ref a) (.int k u) = operate [.ref a, .int k u] (getItem (.ref a) (.int k u))) : wpAny (model prog w) A (subscriptTail value slice (.ref a) (.int k u)) Q E s :=
  tail_any hl.typeIs slot_list_getitem.lookup (wpAny_getItem_list_neg hl h0 h1 hfit hx h) hs
theorem tail_last {value slice : Expr} {a : Addr} {xs : List Value} {u : Tok} {x : Value} {Q : Value → Shared → Prop} (hl : s.heap.IsList a (xs ++ [x]).toArray) (h : Q x s)
    (hs : subscripted slice false (.ref a) (.int (-1) u) = operate [.ref a, .int (-1) u] (getItem (.ref a) (.int (-1) u))) : wpAny (model prog w) A (subscriptTail value slice (.ref a) (.int (-1) u)) Q E s := by
  refine tail_neg hl (by decide) ?_ (by decide) ?_ h hs
  · simp only [List.size_toArray, List.length_append, List.length_cons, List.length_nil]; omega
  · have : ((-1 : Int) + ((xs ++ [x]).toArray.size : Int)).toNat = xs.length := by
      simp only [List.size_toArray, List.length_append, List.length_cons, List.length_nil]; omega
    rw [this]; simp

theorem allLt_mem {d : Addr} : ∀ {l : List (Addr × Obj)}, AllLt d l → ∀ p ∈ l, p.1 < d
  | [], _, _, hp => nomatch hp
  | q :: l, h, p, hp => by
    rcases List.mem_cons.mp hp with rfl | hp
    · exact h.1
    · exact allLt_mem h.2 p hp
theorem News.sub {base h : Heap} {L : Addr} {l l' : List (Addr × Obj)} (N : News base L h l) (hs : ∀ p ∈ l', p ∈ l) : News base L h l' := fun p hp => N p (hs p hp)
theorem News.ol {base h : Heap} {L a : Addr} {o : Obj} {items : Array Value} {news : List (Addr × Obj)} (N : News base L h news) (hm : (a, o) ∈ news) (ho : OList o items) : h.IsList a items := ⟨o, (N _ hm).1, ho.1, ho.2⟩
theorem IsList.obj {h : Heap} {a : Addr} {items : Array Value} (x : h.IsList a items) : ∃ o, h.get? a = some o ∧ OList o items := let ⟨o, ho, hc, r⟩ := x; ⟨o, ho, hc, r⟩

/-- a store into a list of the ledger -/
theorem set_led {base : Heap} {L a : Addr} {m : Str → Option Value} {pre post : List (Addr × Obj)} {o : Obj} {items : Array Value} {k : Int} {t : Tok} {v : Value} {Q : Unit → Shared → Prop}
    (F : Fr base L s.heap m) (N : News base L s.heap (pre ++ (a, o) :: post)) (h1 : ∀ p ∈ pre, p.1 ≠ a) (h2 : ∀ p ∈ post, p.1 ≠ a) (ho : OList o items) (h0 : 0 ≤ k) (hfit : k < 2 ^ 63) (hn : k < items.size)
    (h : ∀ h' o', Fr base L h' m → News base L h' (pre ++ (a, o') :: post) → OList o' (items.setIfInBounds k.toNat v) → Q () { s with heap := h' }) :
    wpAny (model prog w) A (setItem (.ref a) (.int k t) v) Q E s := by
  have hm := N (a, o) (List.mem_append_right _ (.head _))
  refine wpAny_setItem_list (News.ol N (List.mem_append_right _ (.head _)) ho) h0 hfit hn fun h' hl hs => ?_
  obtain ⟨o', ho', x'⟩ := IsList.obj hl
  exact h h' o' (F.change hs hm.2.1 hm.2.2) (N.setIn h1 h2 hs ho') x'
end

section
variable {prog : Program} {w : World} {A : Around} {E : Value → Shared → Prop} {s : Shared}
/-- a store into a dict of ints of the ledger -/
theorem dset_led {base : Heap} {L d : Addr} {m : Str → Option Value} {pre post : List (Addr × Obj)} {o : Obj} {kvs : List (Int × Value)} {k : Int} {t : Tok} {v : Value} {Q : Unit → Shared → Prop}
    (F : Fr base L s.heap m) (N : News base L s.heap (pre ++ (d, o) :: post)) (h1 : ∀ p ∈ pre, p.1 ≠ d) (h2 : ∀ p ∈ post, p.1 ≠ d) (hd : o.IsDictOf (intKind prog w) kvs) (hsz : kvs.length ≤ 1000)
    (h : ∀ h' o', Fr base L h' m → News base L h' (pre ++ (d, o') :: post) → o'.IsDictOf (intKind prog w) (stored kvs k v) → Q () { s with heap := h', toks := s.toks + 1 }) :
    wpAny (model prog w) A (setItem (.ref d) (.int k t) v) Q E s := by
  have hm := N (d, o) (List.mem_append_right _ (.head _))
  refine wpAny_setItem_pairs (knd := intKind prog w) (hsz := by rw [sizeLine_eq]; omega) (k := k) (by simp [intKind, Value.isInt]) (Heap.dictOf_iff.mpr ⟨o, hm.1, hd⟩) fun h' hl hs => ?_
  obtain ⟨o', ho', x'⟩ := Heap.dictOf_iff.mp hl
  exact h h' o' (F.change hs hm.2.1 hm.2.2) (N.setIn h1 h2 hs ho') x'
theorem stored_new {K : Type} [DecidableEq K] {kvs : List (K × Value)} {k : K} {v : Value} (h : k ∉ kvs.map (·.1)) : stored kvs k v = kvs ++ [(k, v)] := by
  unfold stored
  rw [if_neg]
  intro hc
  obtain ⟨p, hp, e⟩ := List.any_eq_true.mp hc
  exact h (List.mem_map.mpr ⟨p, hp, by simpa using e⟩)
end

section
variable {prog : Program} {w : World} {A : Around} {E : Value → Shared → Prop} {s : Shared}
theorem inplace_list {a b : Value} {T : String} {Q : Value → Shared → Prop} (ha : s.TypeIs a "list") (hb : s.TypeIs b "list")
    (hc : wpAny (model prog w) A (call (.builtin "list.__iadd__") [a, b]) Q E s) : wpAny (model prog w) A (inplaceOp .Add a b) Q E s := by
  have hlk : typeLookup (.type "list") (dunderI "add") = pure (some (.builtin "list.__iadd__")) := PySem.F.slot_list_iadd.lookup
  have hq : isSeqSlot (some (.builtin "list.__iadd__")) = true := by decide +kernel
  unfold inplaceOp
  refine wpAny_holding ?_
  have hfi : fillsInplaceSlot (.type "list") "add" (Operator.Add == .Add) = pure false := by
    unfold fillsInplaceSlot
    show (typeLookup (.type "list") (dunderI "add") >>= fun fi => pure (fi.isSome && !isSeqSlot fi)) = pure false
    rw [hlk]
    show (pure (true && !isSeqSlot (some (.builtin "list.__iadd__"))) : Sem Bool) = pure false
    rw [hq]; rfl
  have hsi : seqSlot? (.type "list") (dunderI "add") = pure (some (.builtin "list.__iadd__")) := PySem.seqSlot_of hlk hq
  refine wpAny_bind (wpAny_typeOf ha (wpAny_bind (wpAny_of_eq hfi ?_)))
  show wpAny _ A (if false = true then _ else _) Q E s
  rw [if_neg Bool.false_ne_true]
  refine wpAny_bind (wpAny_binaryOp1_none (nm := "add") ha hb noFill_list_add ?_)
  refine wpAny_bind (wpAny_of_eq hsi ?_)
  exact wpAny_bind (wpAny_rule hc)

theorem mapSeq_listOf (f : Array Value → Array Value) (its : Array Value) (n : Nat) : ∃ n', Obj.mapSeq f (listOf its n) = listOf (f its) n' := ⟨_, rfl⟩

theorem iadd_led {base : Heap} {L V D : Addr} {m : Str → Option Value} {pre post : List (Addr × Obj)} {its its2 : Array Value} {n n2 : Nat} {Q : Value → Shared → Prop}
    (F : Fr base L s.heap m) (N : News base L s.heap (pre ++ (V, listOf its n) :: post)) (h1 : ∀ p ∈ pre, p.1 ≠ V) (h2 : ∀ p ∈ post, p.1 ≠ V) (hD : s.heap.get? D = some (listOf its2 n2)) (hz : its.size + its2.size ≤ 1000)
    (h : ∀ h' n', Fr base L h' m → News base L h' (pre ++ (V, listOf (its ++ its2) n') :: post) → Q (.ref V) { s with heap := h' }) :
    wpAny (model prog w) A (inplaceOp .Add (.ref V) (.ref D)) Q E s := by
  have z := N (V, listOf its n) (List.mem_append_right _ (.head _))
  obtain ⟨n', hn'⟩ := mapSeq_listOf (fun x => x ++ its2) its n
  refine inplace_list (T := "list") ⟨_, z.1, rfl⟩ ⟨_, hD, rfl⟩ (call_meets PySem.F.slot_list_iadd ⟨_, z.1, rfl⟩ PySem.F.entry_list_iadd (PySem.F.args_list_iadd_2 _ _) (PySem.AutoSeq1.list___iadd___list_list_0 V its n D its2 n2 ?_ ?_ ?_) ⟨z.1, hD, ?_⟩)
  · simp only [Builtin.List.listTooLong, Bool.and_eq_true, decide_eq_true_eq]; rw [sizeLine_eq]; omega
  · rw [sizeLine_eq]; omega
  · rw [sizeLine_eq]; omega
  · have hs : Heap.SameBut V s.heap (s.heap.update V (Obj.mapSeq fun x => x ++ its2)) := Heap.SameBut.update ..
    refine h _ n' (F.change hs z.2.1 z.2.2) (N.setIn h1 h2 hs ?_)
    rw [← hn']
    exact Heap.get?_update_self _ z.1 (by rw [hn']; rfl)

theorem extend_led {base : Heap} {L V D : Addr} {m : Str → Option Value} {pre post : List (Addr × Obj)} {its its2 : Array Value} {n n2 : Nat} {Q : Value → Shared → Prop}
    (F : Fr base L s.heap m) (N : News base L s.heap (pre ++ (V, listOf its n) :: post)) (h1 : ∀ p ∈ pre, p.1 ≠ V) (h2 : ∀ p ∈ post, p.1 ≠ V) (hD : s.heap.get? D = some (listOf its2 n2)) (hz : its.size + its2.size ≤ 1000)
    (h : ∀ h' n', Fr base L h' m → News base L h' (pre ++ (V, listOf (its ++ its2) n') :: post) → Q .none { s with heap := h' }) :
    wpAny (model prog w) A (call (.builtin "list.extend") [.ref V, .ref D]) Q E s := by
  have z := N (V, listOf its n) (List.mem_append_right _ (.head _))
  obtain ⟨n', hn'⟩ := mapSeq_listOf (fun x => x ++ its2) its n
  refine call_meets PySem.F.slot_list_extend ⟨_, z.1, rfl⟩ PySem.F.entry_list_extend (PySem.F.args_list_extend_2 _ _) (PySem.AutoSeq1.list_extend_list_list_0 V its n D its2 n2 ?_ ?_ ?_) ⟨z.1, hD, ?_⟩
  · simp only [Builtin.List.listTooLong, Bool.and_eq_true, decide_eq_true_eq]; rw [sizeLine_eq]; omega
  · rw [sizeLine_eq]; omega
  · rw [sizeLine_eq]; omega
  · have hs : Heap.SameBut V s.heap (s.heap.update V (Obj.mapSeq fun x => x ++ its2)) := Heap.SameBut.update ..
    refine h _ n' (F.change hs z.2.1 z.2.2) (N.setIn h1 h2 hs ?_)
    rw [← hn']
    exact Heap.get?_update_self _ z.1 (by rw [hn']; rfl)
end

section
variable {prog : Program} {w : World} {A : Around} {s : Shared} {K : Frag} {h₀ : Heap} {L : Addr} {m mg mb : Str → Option Value} {p : Program} {loose : List Str} {mean : ExcName → Option Value} {news : List (Addr × Obj)} {Q E : Value → Shared → Prop}

/-- a call of a def that raises nothing: everything that stands at the call is frozen -/
theorem call_own {name qual : Str} {params : Arguments} {body : List Stmt} {scope : Scope} {dV kV doc pm cdv ct oc : Value} {an od : Option Addr} {osl : Array (Option Value)} {f : Addr} {args : List Value} {binds : List (Str × Value)}
    (F : Fr h₀ L s.heap m) (X₀ : K.In h₀) (T : Top p loose mean mg mb h₀) (ho : K.lookup f = some ⟨oc, od, .func (fnOf name qual params body scope dV kV doc pm an cdv ct), osl⟩) (hcd : codeIn K cdv qual = true) (hroom : A.depth < recursionLimit)
    (hbind : BindsTo s (fnOf name qual params body scope dV kV doc pm an cdv ct) ⟨args, []⟩ binds) (hloc : ∀ y ∈ binds, scope.names.lookup y.1 = some .local)
    (h : ∀ h₁, Fr s.heap s.heap.objs.size h₁ (fun y => binds.reverse.lookup y) → K.In s.heap → Top p loose mean mg mb s.heap →
      wpAny (model prog w) (A.deeper (envOf qual scope s.heap.objs.size f cdv)) (execs body (envOf qual scope s.heap.objs.size f cdv))
        (fun fl s' => Q (match fl with | .ret v => v | _ => .none) s') (fun _ _ => False) { s with heap := h₁, toks := s.toks + binds.length })
    (hcell : ∀ x ∈ scope.names, x.2 ≠ .cell) (hco : scope.isCoroutine = false) (hgen : scope.isGenerator = false) (hk : scope.kind = .function) :
    wpAny (model prog w) A (call (.ref f) args) Q E s := by
  refine wpAny_call (codeAny_call_def (fd := fnOf name qual params body scope dV kV doc pm an cdv ct) (body := body) (binds := binds) hroom ((X₀.keeps F.keep) _ _ ho) rfl (T.nolimit.keeps F.keep) (codeRec_of (X₀.keeps F.keep) hcd) rfl hbind hcell hloc (fun h₁ hns hk₁ => ?_) hco hgen hk)
  exact wpAny_mono (h h₁ ⟨hns, hk₁, Nat.le_refl _⟩ (X₀.keeps F.keep) (T.keeps F.keep)) (fun _ _ x => x) fun _ _ x => x.elim

theorem lookup_c (a : Str) (v : Value) (r : List (Str × Value)) : (fun y => List.lookup y ((a, v) :: r)) = fun y => if y = a then some v else List.lookup y r := by
  funext y
  rw [List.lookup_cons]
  by_cases h : y = a
  · simp [h]
  · have : (y == a) = false := beq_eq_false_iff_ne.mpr h
    rw [this, if_neg h]
theorem lookup0 : (fun y : Str => List.lookup y ([] : List (Str × Value))) = fun _ => none := rfl
theorem lookup1 (a : Str) (v : Value) : (fun y => List.lookup y [(a, v)]) = fun y => if y = a then some v else none := lookup_c a v []
theorem lookup2 (a : Str) (v : Value) (b : Str) (x : Value) : (fun y => List.lookup y [(a, v), (b, x)]) = fun y => if y = a then some v else if y = b then some x else none := by
  rw [lookup_c]; funext y; rw [congrFun (lookup_c b x []) y]; rfl
theorem lookup3 (a : Str) (v : Value) (b : Str) (x : Value) (c : Str) (z : Value) : (fun y => List.lookup y [(a, v), (b, x), (c, z)]) = fun y => if y = a then some v else if y = b then some x else if y = c then some z else none := by
  rw [lookup_c]; funext y; rw [congrFun (lookup2 b x c z) y]
theorem ov_self {m : Str → Option Value} {x : Str} {u : Option Value} (h : m x = u) : m = fun y => if y = x then u else m y := by
  funext y
  by_cases e : y = x
  · rw [if_pos e, e, h]
  · rw [if_neg e]
theorem ov_ov (m : Str → Option Value) (x : Str) (u v : Option Value) : (fun y => if y = x then u else if y = x then v else m y) = fun y => if y = x then u else m y := by
  funext y
  by_cases e : y = x
  · rw [if_pos e, if_pos e]
  · rw [if_neg e, if_neg e, if_neg e]
theorem ov_swap {a b : Str} (hab : a ≠ b) (m : Str → Option Value) (x z u w : Option Value) : (fun y => if y = a then x else if y = b then z else if y = b then u else if y = a then w else m y) = fun y => if y = b then z else if y = a then x else m y := by
  funext y
  by_cases e : y = a
  · rw [if_pos e, if_neg (fun h => hab (e.symm.trans h)), if_pos e]
  · rw [if_neg e]
    by_cases h : y = b
    · rw [if_pos h, if_pos h]
    · rw [if_neg h, if_neg h, if_neg h, if_neg e, if_neg e]
theorem fr_eq {h : Heap} {m' : Str → Option Value} (F : Fr h₀ L h m) (e : m = m') : Fr h₀ L h m' := e ▸ F
theorem back {h' : Heap} {L' : Addr} {m' : Str → Option Value} {h : Heap} {nl : List (Addr × Obj)} (F : Fr h₀ L h m) (N : News h₀ L h news) (F' : Fr h L' h' m') (N' : News h L' h' nl) : Fr h₀ L h' m ∧ News h₀ L h' (nl ++ news) := by
  obtain ⟨oL, esL, epL, hL, r⟩ := F.ns
  refine ⟨⟨⟨oL, esL, epL, F'.keep _ _ hL, r⟩, fun b o e => F'.keep b o (F.keep b o e), F.above⟩, fun q hq => ?_⟩
  rcases List.mem_append.mp hq with hq | hq
  · obtain ⟨x1, _, x3⟩ := N' q hq
    refine ⟨x1, fun e => ?_, TT.none_of F.keep x3⟩
    rw [e, hL] at x3; cases x3
  · obtain ⟨x1, x2, x3⟩ := N q hq
    exact ⟨F'.keep _ _ x1, x2, x3⟩
end
end
section
open PySem PySem.W PyProof.Rows PyProof.V PySem.Spec PySem.Calls
section
variable {prog : Program} {w : World} {A : Around} {env : Env} {base : Heap} {L : Addr} {s : Shared}

/-- a turn of a while, with what comes after it kept out of sight -/
theorem opq_while {c : Sem Bool} {body : List Stmt} {J : Nat → (Str → Option Value) → List (Addr × Obj) → Prop} {Q : Flow → Shared → Prop} {E : Value → Shared → Prop} {n : Nat} {h : Heap} {tk : Nat}
    (H : ∀ (σ : Shared) (K : Flow → Shared → Prop) (Kd : Shared → Prop),
      (∀ f h tk, WhileStep2 base L s J Q n f { s with heap := h, toks := tk } → K f { σ with heap := h, toks := tk }) →
      (∀ h tk, Q .next { s with heap := h, toks := tk } → Kd { σ with heap := h, toks := tk }) →
      wpAny (model prog w) A c (fun b s₂ => if b = true then wpAny (model prog w) A (execs body env) K E s₂ else Kd s₂) E { σ with heap := h, toks := tk }) :
    wpAny (model prog w) A c (fun b s₂ => if b = true then wpAny (model prog w) A (execs body env) (WhileStep2 base L s J Q n) E s₂ else Q .next s₂) E { s with heap := h, toks := tk } :=
  H s _ _ (fun _ _ _ h => h) fun _ _ h => h

/-- likewise, with the state's own rest already out of sight -/
theorem opq_whileS {c : Sem Bool} {body : List Stmt} {J : Nat → (Str → Option Value) → List (Addr × Obj) → Prop} {Q : Flow → Shared → Prop} {E : Value → Shared → Prop} {n : Nat} {h h0 : Heap} {tk t0 : Nat}
    (H : ∀ (K : Flow → Shared → Prop) (Kd : Shared → Prop),
      (∀ f h tk, WhileStep2 base L { s with heap := h0, toks := t0 } J Q n f { s with heap := h, toks := tk } → K f { s with heap := h, toks := tk }) →
      (∀ h tk, Q .next { s with heap := h, toks := tk } → Kd { s with heap := h, toks := tk }) →
      wpAny (model prog w) A c (fun b s₂ => if b = true then wpAny (model prog w) A (execs body env) K E s₂ else Kd s₂) E { s with heap := h, toks := tk }) :
    wpAny (model prog w) A c (fun b s₂ => if b = true then wpAny (model prog w) A (execs body env) (WhileStep2 base L { s with heap := h0, toks := t0 } J Q n) E s₂ else Q .next s₂) E { s with heap := h, toks := tk } :=
  H _ _ (fun _ _ _ h => h) fun _ _ h => h

/-- a turn of a for, likewise -/
theorem opq_for {c : Sem Unit} {body : List Stmt} {J : (Str → Option Value) → List (Addr × Obj) → Prop} {Q : Flow → Shared → Prop} {E : Value → Shared → Prop} {ik : Addr × Obj} {fz : List (Addr × Obj)} {h : Heap} {tk : Nat}
    (H : ∀ (σ : Shared) (K : Flow → Shared → Prop),
      (∀ f h tk, TurnEnd base L s ik fz J Q f { s with heap := h, toks := tk } → K f { σ with heap := h, toks := tk }) →
      wpAny (model prog w) A c (fun _ s₂ => wpAny (model prog w) A (execs body env) K E s₂) E { σ with heap := h, toks := tk }) :
    wpAny (model prog w) A c (fun _ s₂ => wpAny (model prog w) A (execs body env) (TurnEnd base L s ik fz J Q) E s₂) E { s with heap := h, toks := tk } :=
  H s _ (fun _ _ _ h => h)

theorem opqQ {α : Type} {c : Sem α} {Q : α → Shared → Prop} {E : Value → Shared → Prop}
    (H : ∀ K : α → Shared → Prop, (∀ f s', Q f s' → K f s') → wpAny (model prog w) A c K E s) : wpAny (model prog w) A c Q E s :=
  H _ (fun _ _ h => h)

/-- what comes after, kept out of sight -/
theorem opq {α : Type} {c : Sem α} {Q : α → Shared → Prop} {E : Value → Shared → Prop} {h : Heap} {tk : Nat}
    (H : ∀ (σ : Shared) (K : α → Shared → Prop), (∀ f h tk, Q f { s with heap := h, toks := tk } → K f { σ with heap := h, toks := tk }) → wpAny (model prog w) A c K E { σ with heap := h, toks := tk }) :
    wpAny (model prog w) A c Q E { s with heap := h, toks := tk } :=
  H s _ (fun _ _ _ h => h)
end
end
section
open PySem PySem.W PyProof.Rows PyProof.V PySem.Spec PySem.Calls
section
variable {prog : Program} {w : World} {A : Around} {s : Shared} {K : Frag} {h₀ : Heap} {L : Addr} {m mg mb : Str → Option Value} {p : Program} {loose : List Str} {mean : ExcName → Option Value} {news : List (Addr × Obj)} {Q E : Value → Shared → Prop}
/-- a call of a def with cells that raises nothing: everything that stands at the call is frozen -/
theorem call_ownC {name qual : Str} {params : Arguments} {body : List Stmt} {scope : Scope} {dV kV doc pm cdv ct oc : Value} {an od : Option Addr} {osl : Array (Option Value)} {f : Addr} {args : List Value} {binds : List (Str × Value)}
    (F : Fr h₀ L s.heap m) (X₀ : K.In h₀) (T : Top p loose mean mg mb h₀) (ho : K.lookup f = some ⟨oc, od, .func (fnOf name qual params body scope dV kV doc pm an cdv ct), osl⟩) (hcd : codeIn K cdv qual = true) (hroom : A.depth < recursionLimit)
    (hbind : BindsTo s (fnOf name qual params body scope dV kV doc pm an cdv ct) ⟨args, []⟩ binds) (hloc : ∀ y ∈ binds, scope.names.lookup y.1 = some .local)
    (hnd : ((cellsFrom 0 scope.names []).map (·.1)).Nodup)
    (h : ∀ h₁ tk cells, Fr s.heap s.heap.objs.size h₁ (bindL (envOfC qual scope s.heap.objs.size f cdv).kindOf binds fun _ => none) → News s.heap s.heap.objs.size h₁ cells →
      CellsAre (bindC (envOfC qual scope s.heap.objs.size f cdv).kindOf binds fun _ => none) (cellsFrom (s.heap.objs.size + 1) scope.names []) cells → K.In s.heap → Top p loose mean mg mb s.heap →
      wpAny (model prog w) (A.deeper (envOfC qual scope s.heap.objs.size f cdv)) (execs body (envOfC qual scope s.heap.objs.size f cdv))
        (fun fl s' => Q (match fl with | .ret v => v | _ => .none) s') (fun _ _ => False) { s with heap := h₁, toks := tk })
    (hco : scope.isCoroutine = false) (hgen : scope.isGenerator = false) (hk : scope.kind = .function) :
    wpAny (model prog w) A (call (.ref f) args) Q E s := by
  refine wpAny_call (codeAny_call_function hroom ((X₀.keeps F.keep) _ _ ho) rfl hco hgen rfl (codeRec_of (X₀.keeps F.keep) hcd) (hbind _ _ _ _ ?_))
  refine wpAny_newFunctionEnv_cells hk (fun x hx => .inl (hloc x hx)) fun env' he s' x => ?_
  subst he
  refine ⟨(T.nolimit.keeps F.keep).keeps x.toInCall.keep, codeAny_func ?_⟩
  obtain ⟨h₁, tk, rfl, _⟩ := x.done
  have hk₁ := x.toInCall.keep
  obtain ⟨cells, NC, Y⟩ := Cl.news (h₀ := s.heap) (Nat.le_refl _) fun n c hm => ⟨x.cell n c (lookup_of_mem_nodup (cellsFrom_names scope.names 0 (s.heap.objs.size + 1) [] [] rfl ▸ hnd) hm), x.above n c hm⟩
  exact wpAny_mono (h h₁ tk cells ⟨x.toInCall.ns, hk₁, Nat.le_refl _⟩ NC Y (X₀.keeps F.keep) (T.keeps F.keep)) (fun _ _ x => x) fun _ _ x => x.elim
end
end
section
open PySem PySem.W PyProof.Rows PyProof.V PySem.Spec PySem.Calls
abbrev PG : Program := PySem.Challenge.rw_sr0099_01.row.prog
abbrev TopH (mean : ExcName → Option Value) (mg mb : Str → Option Value) (h : Heap) : Prop := Top hd.view_39 (looseW hd.view_39 []) mean mg mb h
def Halt (P : Prop) : Prop := P
theorem halt {P : Prop} (h : Halt P) : P := h

def CellsOf : List (Addr × Obj) → List Run → Prop
  | [], [] => True
  | (_, o) :: cs, (r, c) :: rs => (∃ t1 t2, OList o #[.int r t1, .int (c : Int) t2]) ∧ CellsOf cs rs
  | _, _ => False
theorem cells_snoc {cs : List (Addr × Obj)} {a : Addr} {o : Obj} : ∀ {rs : List Run}, CellsOf (cs ++ [(a, o)]) rs → ∃ (rs' : List Run) (q : Int) (c : Nat), rs = rs' ++ [(q, c)] ∧ CellsOf cs rs' ∧ ∃ t1 t2, OList o #[.int q t1, .int (c : Int) t2] := by
  induction cs with
  | nil =>
    intro rs h
    match rs, h with
    | [(q, c)], h => exact ⟨[], q, c, rfl, trivial, h.1⟩
  | cons p cs ih =>
    intro rs h
    obtain ⟨b, o'⟩ := p
    match rs, h with
    | (r, c) :: rs, h =>
      obtain ⟨rs', q, c', e, h1, h2⟩ := ih h.2
      exact ⟨(r, c) :: rs', q, c', by rw [e]; rfl, ⟨h.1, h1⟩, h2⟩
theorem cells_snoc' {cs : List (Addr × Obj)} {a : Addr} {o : Obj} {q : Int} {c : Nat} : ∀ {rs : List Run}, CellsOf cs rs → (∃ t1 t2, OList o #[.int q t1, .int (c : Int) t2]) → CellsOf (cs ++ [(a, o)]) (rs ++ [(q, c)]) := by
  induction cs with
  | nil =>
    intro rs h h'
    match rs, h with
    | [], _ => exact ⟨h', trivial⟩
  | cons p cs ih =>
    intro rs h h'
    obtain ⟨b, o'⟩ := p
    match rs, h with
    | (r, c) :: rs, h => exact ⟨h.1, ih h.2 h'⟩
theorem cells_len {cs : List (Addr × Obj)} : ∀ {rs : List Run}, CellsOf cs rs → cs.length = rs.length := by
  induction cs with
  | nil =>
    intro rs h
    match rs, h with
    | [], _ => rfl
  | cons p cs ih =>
    intro rs h
    match rs, h with
    | (r, c) :: rs, h => simp [ih h.2]
theorem cells_get {cs : List (Addr × Obj)} : ∀ {rs : List Run} {i : Nat} {r : Int} {c : Nat}, CellsOf cs rs → rs[i]? = some (r, c) → ∃ a o t1 t2, cs[i]? = some (a, o) ∧ OList o #[.int r t1, .int (c : Int) t2] := by
  induction cs with
  | nil =>
    intro rs i r c h e
    match rs, h with
    | [], _ => simp at e
  | cons p cs ih =>
    intro rs i r c h e
    obtain ⟨b, o'⟩ := p
    match rs, h with
    | (r', c') :: rs, h =>
      cases i with
      | zero =>
        simp only [List.getElem?_cons_zero, Option.some.injEq, Prod.mk.injEq] at e
        obtain ⟨rfl, rfl⟩ := e
        obtain ⟨t1, t2, ho⟩ := h.1
        exact ⟨b, o', t1, t2, rfl, ho⟩
      | succ i =>
        simp only [List.getElem?_cons_succ] at e
        obtain ⟨a, o, t1, t2, e', ho⟩ := ih h.2 e
        exact ⟨a, o, t1, t2, by simpa using e', ho⟩

/-- the runs as they stand in a heap: read alone -/
structure RunsAt (h : Heap) (R : Addr) (rs : List Run) : Prop where
  ex : ∃ cells : List (Addr × Obj), h.IsList R (cells.map fun p => Value.ref p.1).toArray ∧ (∀ p ∈ cells, h.get? p.1 = some p.2) ∧ CellsOf cells rs
theorem RunsAt.keep {h h' : Heap} {R : Addr} {rs : List Run} (x : RunsAt h R rs) (k : ∀ b o, h.get? b = some o → h'.get? b = some o) : RunsAt h' R rs := by
  obtain ⟨cells, a, b, c⟩ := x.ex
  exact ⟨cells, a.at fun o e => k _ o e, fun p hp => k _ _ (b p hp), c⟩
theorem RunsAt.list {h : Heap} {R : Addr} {rs : List Run} (x : RunsAt h R rs) : ∃ as : List Addr, as.length = rs.length ∧ h.IsList R (as.map Value.ref).toArray ∧
    ∀ (i : Nat) r c, rs[i]? = some (r, c) → ∃ a t1 t2, as[i]? = some a ∧ h.IsList a #[.int r t1, .int (c : Int) t2] := by
  obtain ⟨cells, a, b, c⟩ := x.ex
  refine ⟨cells.map (·.1), by rw [List.length_map, cells_len c], by rw [List.map_map]; exact a, fun i r n e => ?_⟩
  obtain ⟨d, o, t1, t2, e', ho⟩ := cells_get c e
  refine ⟨d, t1, t2, by simp [e'], ⟨o, b _ (List.mem_of_getElem? e'), ho.1, ho.2⟩⟩
end
section
open PySem PySem.W PyProof.Rows PyProof.V PySem.Spec PySem.Calls
section
variable {prog : Program} {w : World} {A : Around} {E : Value → Shared → Prop} {env : Env}
theorem pairs_loop {R : Result → Shared → Prop} {iter : Expr} {x x₂ : Str} {px px₂ tp pe : Pos} {tk₀ : Nat} {scope : Scope} {pos : Pos} {s : Shared} {I l D : Addr} {as : List Addr} {firsts : List Value} {cenv : Env} {m : Str → Option Value}
    (hh : A.handled = none) (hx : cenv.kindOf x = some .local) (hx₂ : cenv.kindOf x₂ = some .local) (hxx : x ≠ x₂) (hkf : cenv.scope.kind = .function) (hp : (cenv.scope.kind == .class || (cenv.scope.kind == .module && cenv.locals != cenv.globals)) = false) (hdb : (x == ("__debug__" : Str)) = false)
    (hit : s.heap.IsListIter I l 0) (hl : s.heap.IsList l (as.map Value.ref).toArray) (hlen : as.length ≤ 1000) (hfl : firsts.length = as.length)
    (hcells : ∀ (j : Nat) (a : Addr) (v : Value), as[j]? = some a → firsts[j]? = some v → ∃ v₂, s.heap.IsList a #[v, v₂]) (hD : s.heap.PlainList D #[]) (hn : s.heap.Ns cenv.locals m)
    (hlI : l ≠ I) (hlC : l ≠ cenv.locals) (hlD : l ≠ D) (hIC : I ≠ cenv.locals) (hID : I ≠ D) (hDC : D ≠ cenv.locals) (haI : ∀ a ∈ as, a ≠ I ∧ a ≠ cenv.locals ∧ a ≠ D)
    (hR : ∀ h' tk m', h'.Ns cenv.locals m' → h'.PlainList D firsts.toArray → (∀ b o, b ≠ cenv.locals → b ≠ I → b ≠ D → s.heap.get? b = some o → h'.get? b = some o) → R (.ok .next) { s with heap := h', toks := tk }) :
    codeAny (model prog w) A (.compLoop (.ListComp (.Name x pe) [⟨.Tuple [.Name x px, .Name x₂ px₂] tk₀ tp, iter, [], 0⟩] scope pos) 0 (.ref I) (.ref D) cenv) R s := by
  refine LCp.codeAny_compLoop_pair
    (fun k s' => ∃ h' tk m' i, s' = { s with heap := h', toks := tk } ∧ h'.IsListIter I l i ∧ h'.PlainList D (firsts.take i).toArray ∧ h'.Ns cenv.locals m' ∧ i ≤ as.length ∧ k = as.length + 1 - i ∧
      (∀ b o, b ≠ cenv.locals → b ≠ I → b ≠ D → s.heap.get? b = some o → h'.get? b = some o)) ?_ (as.length + 1)
    ⟨s.heap, s.toks, m, 0, rfl, hit, by simpa using hD, hn, Nat.zero_le _, rfl, fun _ _ _ _ _ e => e⟩
  rintro k s' ⟨h₁, tk, m', i, rfl, hit₁, hD₁, hn₁, hi, rfl, hk₁⟩
  have hl₁ : h₁.IsList l (as.map Value.ref).toArray := hl.at fun o e => hk₁ _ o hlC hlI hlD e
  by_cases hlt : i < as.length
  · obtain ⟨a, ha⟩ : ∃ a, as[i]? = some a := ⟨_, List.getElem?_eq_getElem hlt⟩
    obtain ⟨v, hv⟩ : ∃ v, firsts[i]? = some v := ⟨_, List.getElem?_eq_getElem (hfl ▸ hlt)⟩
    obtain ⟨v₂, hc⟩ := hcells i a v ha hv
    obtain ⟨ha1, ha2, ha3⟩ := haI a (List.mem_of_getElem? ha)
    refine wpAny_pyNext_list_item (x := .ref a) hit₁ hl₁ (by simp [ha]) fun h₂ hit₂ hs₂ => ?_
    dsimp only
    refine wpAny_letOwnedTupleGo_listiter hit₂ ?_
    have hc₂ : h₂.IsList a #[v, v₂] := (hc.at fun o e => hk₁ _ o ha2 ha1 ha3 e).at fun o e => hs₂.extBut _ o ha1 e
    rw [PyProof.Rows.assign_Tuple]
    refine wpAny_bind (wpAny_standAt ?_)
    unfold unpack
    rw [show (assignEach [.Name x px, .Name x₂ px₂] cenv).length = (#[v, v₂] : Array Value).size from rfl, show (assignEach [.Name x px, .Name x₂ px₂] cenv).findIdx? (·.1) = none from rfl]
    refine wpAny_bind (wpAny_holding ?_)
    refine PySem.W.kun_itemsOf hh hc₂ fun h₃ he₃ => ?_
    have up₃ : ∀ b o, h₂.get? b = some o → h₃.get? b = some o := fun b o e => he₃ b o (Nat.ne_of_lt (Heap.lt_size e)) e
    show wpAny _ _ (assignInOrder [assign (.Name x px) cenv, assign (.Name x₂ px₂) cenv] [v, v₂]) _ _ _
    unfold assignInOrder
    have hn₃ : h₃.Ns cenv.locals m' := (hn₁.sameBut hs₂ (Ne.symm hIC)).keeps up₃
    refine wpAny_bind (wpAny_holding (wpAny_assign_Name (wpAny_storeName_local hx hn₃ (fun h₄ hn₄ hs₄ => ?_) hp)))
    unfold assignInOrder
    refine wpAny_bind (wpAny_holding (wpAny_assign_Name (wpAny_storeName_local hx₂ hn₄ (fun h₅ hn₅ hs₅ => ?_) hp)))
    unfold assignInOrder
    refine wpAny_pure ?_
    refine wpAny_Name (wpAny_loadName_local hkf hx hn₅ (v := v) (by simp [hxx]) ?_) hdb
    have up₅ : ∀ b o, b ≠ cenv.locals → b ≠ I → h₁.get? b = some o → h₅.get? b = some o := fun b o hC hI e => hs₅.extBut b o hC (hs₄.extBut b o hC (up₃ b o (hs₂.extBut b o hI e)))
    refine wpAny_list_append_plain (hsz := by simp only [List.size_toArray, List.length_take]; rw [sizeLine_eq]; omega) (hD₁.at fun o e => up₅ _ o hDC (Ne.symm hID) e) fun h₆ hl₆ hs₆ => ?_
    refine ⟨as.length + 1 - (i + 1), by omega, h₆, _, _, i + 1, rfl, ?_, ?_, hn₅.sameBut hs₆ (Ne.symm hDC), hlt, rfl, fun b o hC hI hD' e => hs₆.extBut b o hD' (up₅ b o hC hI (hk₁ b o hC hI hD' e))⟩
    · exact ((hit₂.at fun o e => up₃ _ o e).at fun o e => hs₅.extBut _ o hIC (hs₄.extBut _ o hIC e)).at fun o e => hs₆.extBut _ o hID e
    · rw [List.take_add_one, hv]
      simpa using hl₆
  · have hin : i = as.length := by omega
    subst hin
    refine wpAny_pyNext_list_end hh hit₁ hl₁ (by simp) fun h₂ he₂ => ?_
    dsimp only
    refine hR h₂ tk m' (hn₁.at' fun o e => he₂ _ o (Ne.symm hIC) e) ?_ fun b o hC hI hD' e => he₂ b o hI (hk₁ b o hC hI hD' e)
    have : firsts.take as.length = firsts := List.take_of_length_le (by omega)
    rw [this] at hD₁
    exact hD₁.at fun o e => he₂ _ o (Ne.symm hID) e

theorem ListComp_pairs {Q : Value → Shared → Prop} {iter : Expr} {x x₂ : Str} {px px₂ tp pe : Pos} {tk₀ : Nat} {scope : Scope} {pos : Pos} {s : Shared} 
    (hh : A.handled = none) (hclos : closureFor scope env = pure []) (hcell : ∀ y ∈ scope.names, y.2 ≠ .cell) (hkind : scope.kind = .function)
    (hnames : ∀ y ∈ scope.names, y.2 = .local → scope.names.lookup y.1 = some .local) (hx : scope.names.lookup x = some .local) (hx₂ : scope.names.lookup x₂ = some .local) (hxx : x ≠ x₂) (hdb : (x == ("__debug__" : Str)) = false)
    (h : wpAny (model prog w) A (eval iter env) (fun xv s₁ => Halt (∃ (l : Addr) (as : List Addr) (firsts : List Value), xv = .ref l ∧ s₁.heap.IsList l (as.map Value.ref).toArray ∧ as.length ≤ 1000 ∧ firsts.length = as.length ∧
      (∀ (j : Nat) (a : Addr) (v : Value), as[j]? = some a → firsts[j]? = some v → ∃ v₂, s₁.heap.IsList a #[v, v₂]) ∧ (∀ a ∈ as, ∃ o, s₁.heap.get? a = some o) ∧
      (∀ D h' tk, s₁.heap.get? D = none → h'.PlainList D firsts.toArray → (∀ b o, s₁.heap.get? b = some o → h'.get? b = some o) → Q (.ref D) { s₁ with heap := h', toks := tk }))) E s)
    (hs : ∀ x, foldedSetIterable iter env x = pure x) :
    wpAny (model prog w) A (eval (.ListComp (.Name x pe) [⟨.Tuple [.Name x px, .Name x₂ px₂] tk₀ tp, iter, [], 0⟩] scope pos) env) Q E s := by
  rw [eval_ListComp]
  refine wpAny_comprehension_free (use := none) (cl := []) rfl hs hclos hkind hnames (wpAny_mono h (fun xv s₁ h₁ => ?_) fun _ _ e => e)
  obtain ⟨l, as, firsts, rfl, hl, hlen, hfl, hcells, has, hQ⟩ := h₁
  refine wpAny_pyIter_list hl ?_
  refine wpAny_newObj_type (wpAny_newFunctionEnv hcell (by intro y hy; simp at hy) (fun h₁ hns₁ hsb₁ => ?_) hkind)
  dsimp only at hns₁ hsb₁ ⊢
  generalize hit : ({ cls := .type "list_iterator", data := .fields #[.ref l, .int 0 0] } : Obj) = oI at hns₁ hsb₁ ⊢
  generalize hH1 : s₁.heap.push oI = H1 at hns₁ hsb₁ ⊢
  generalize hH2 : H1.push { cls := .type "list", dict := none, data := .seq ([] : List Value).toArray } = H2 at hns₁ hsb₁ ⊢
  have c1 : H1.objs.size = s₁.heap.objs.size + 1 := by rw [← hH1, Heap.size_push]
  have c2 : H2.objs.size = s₁.heap.objs.size + 2 := by rw [← hH2, Heap.size_push, c1]
  have below : ∀ b o, s₁.heap.get? b = some o → @LT.lt Nat _ b s₁.heap.objs.size := fun b o e => Heap.lt_size e
  have ne : ∀ b o, s₁.heap.get? b = some o → b ≠ s₁.heap.objs.size ∧ b ≠ H2.objs.size ∧ b ≠ H1.objs.size := fun b o e => by
    have := below b o e
    refine ⟨Nat.ne_of_lt this, ?_, ?_⟩
    · rw [c2]; exact Nat.ne_of_lt (by omega)
    · rw [c1]; exact Nat.ne_of_lt (by omega)
  have old : ∀ b o, s₁.heap.get? b = some o → h₁.get? b = some o := fun b o e => hsb₁.extBut b o (ne b o e).2.1 (Heap.get?_push_of_some _ (hH2 ▸ Heap.get?_push_of_some _ (hH1 ▸ Heap.get?_push_of_some _ e)))
  have fresh : ∀ a, s₁.heap.objs.size ≤ a → s₁.heap.get? a = none := fun a ha => Heap.get?_none_of_le ha
  have i1 : s₁.heap.objs.size ≠ H2.objs.size := by rw [c2]; exact Nat.ne_of_lt (by omega)
  have i2 : s₁.heap.objs.size ≠ H1.objs.size := by rw [c1]; exact Nat.ne_of_lt (by omega)
  have i3 : H1.objs.size ≠ H2.objs.size := by rw [c1, c2]; exact Nat.ne_of_lt (by omega)
  have hitr : h₁.IsListIter s₁.heap.objs.size l 0 := by
    refine ⟨oI, hsb₁.extBut _ _ i1 (Heap.get?_push_of_some _ (hH2 ▸ Heap.get?_push_of_some _ (hH1 ▸ Heap.get?_push_size _ (by rw [← hit]; rfl)))), by rw [← hit], by rw [← hit]; rfl⟩
  have hacc : h₁.PlainList H1.objs.size #[] := ⟨_, hsb₁.extBut _ _ i3 (Heap.get?_push_of_some _ (hH2 ▸ Heap.get?_push_size _ rfl))⟩
  obtain ⟨ol, hol, _⟩ := id hl
  have loop : codeAny (model prog w) A (.compLoop (.ListComp (.Name x pe) [⟨.Tuple [.Name x px, .Name x₂ px₂] tk₀ tp, iter, [], 0⟩] scope pos) 0 (.ref s₁.heap.objs.size) (.ref H1.objs.size) (compEnvC scope [] H2.objs.size env))
      (compPost (model prog w) A E none Q (.ref H1.objs.size) H2.objs.size) { s₁ with heap := h₁, toks := s₁.toks + ([] : List (Str × Value)).length } := by
    refine pairs_loop (m := _) hh (lookup_relabel_local hx) (lookup_relabel_local hx₂) hxx (by simp [compEnvC, relabel, hkind]) (by simp [compEnvC, relabel, hkind]) hdb hitr (hl.at fun o e => old _ o e) hlen hfl
      (fun j a v ha hv => (hcells j a v ha hv).imp fun v₂ hc => hc.at fun o e => old _ o e) hacc hns₁ (ne _ _ hol).1 (ne _ _ hol).2.1 (ne _ _ hol).2.2 i1 i2 i3
      (fun a ha => (has a ha).elim fun o e => ⟨(ne _ _ e).1, (ne _ _ e).2.1, (ne _ _ e).2.2⟩) fun h' tk m' hn' hD' hk' => ?_
    refine ⟨m', hn', fun h'' hs'' => hQ H1.objs.size h'' tk (fresh _ (by rw [c1]; exact Nat.le_succ _)) (hD'.at fun o e => hs''.extBut _ o i3 e) fun b o e => hs''.extBut b o (ne _ _ e).2.1 (hk' b o (ne _ _ e).2.1 (ne _ _ e).1 (ne _ _ e).2.2 (old b o e))⟩
  exact codeAny_compStart_list loop (wpAny_pyIter_listiter hitr loop)
end
end
section
open PySem PySem.W PyProof.Rows PyProof.V PySem.Spec PySem.Calls
theorem keys_ints : ∀ {vs : List Value} {ks : List Int}, vs.length = ks.length → (∀ (j : Nat) v, vs[j]? = some v → ∃ k, ks[j]? = some k ∧ Value.isInt k v = true) → IntsAre vs ks
  | [], [], _, _ => .nil
  | [], _ :: _, h, _ => nomatch h
  | _ :: _, [], h, _ => nomatch h
  | v :: vs, k :: ks, hl, h => by
    obtain ⟨k', e, hk⟩ := h 0 v rfl
    cases e
    obtain ⟨t, rfl⟩ := Value.isInt_shape hk
    exact .cons k t (keys_ints (by simpa using hl) fun j v hv => by simpa using h (j + 1) v (by simpa using hv))
theorem ints_filter {p : Value → Bool} {q : Int → Bool} (hpq : ∀ k t, p (.int k t) = q k) : ∀ {vs : List Value} {ks : List Int}, IntsAre vs ks → IntsAre (vs.filter p) (ks.filter q)
  | _, _, .nil => .nil
  | _, _, .cons n t h => by
    rw [List.filter_cons, List.filter_cons, hpq]
    cases q n with
    | true => exact .cons n t (ints_filter hpq h)
    | false => exact ints_filter hpq h
theorem paired_eq {vs ys : List Value} (h : Paired (fun v y => v = y) vs ys) : vs = ys := by
  induction h with
  | nil => rfl
  | cons a b ih => rw [a, ih]
section
variable {prog : Program} {w : World} {A : Around} {E : Value → Shared → Prop} {env : Env}
theorem comp_keys_in {Q : Flow → Shared → Prop} {iter : Expr} {x y on : Str} {px py pe pc po pp : Pos} {scope : Scope} {pos spos : Pos} {s : Shared} {kva kvb : List (Int × Value)} {Da Db C : Addr} {oDa oDb oc : Obj} {base : Heap} {m : Str → Option Value} {news : List (Addr × Obj)}
    (hh : A.handled = none) (F : Fr base env.locals s.heap m) (N : News base env.locals s.heap news)
    (ha : (Da, oDa) ∈ news) (hda : oDa.IsDictOf (intKind prog w) kva) (loa : (Da == sysModules) = false)
    (hb : (Db, oDb) ∈ news) (hdb : oDb.IsDictOf (intKind prog w) kvb) (lob : (Db == sysModules) = false)
    (hc : (C, oc) ∈ news) (hcd : oc.data = .cell (some (.ref Db))) (hlen : kva.length ≤ 1000)
    (hiter : ∀ (Q' : Value → Shared → Prop) E', Q' (.ref Da) s → wpAny (model prog w) A (eval iter env) Q' E' s)
    (hx : scope.names.lookup x = some .local)
    (hko : ∀ C', (compEnvC scope [(on, C)] C' env).kindOf on = some .cell)
    (hdbx : (x == ("__debug__" : Str)) = false) (hdbo : (on == ("__debug__" : Str)) = false)
    (h : ∀ D h' vs tk n, Fr base env.locals h' (fun z => if z = y then some (.ref D) else m z) → News base env.locals h' ((D, listOf vs.toArray n) :: news) → (∀ p ∈ news, p.1 ≠ D) → IntsAre vs ((kva.map (·.1)).filter fun k => (valueAt kvb k).isSome) → Q .next { s with heap := h', toks := tk })
    (hsw : swapsWith (.ListComp (.Name x pe) [⟨.Name x px, iter, [.Compare (.Name x pc) [.In] [.Name on po] pp], 0⟩] scope pos) (some (.Name y py)) spos.line env = pure true)
    (hclos : closureFor scope env = pure [(on, C)]) (hcell : ∀ z ∈ scope.names, z.2 ≠ .cell) (hkind : scope.kind = .function)
    (hnames : ∀ z ∈ scope.names, z.2 = .local → scope.names.lookup z.1 = some .local)
    (hy : env.kindOf y = some .local) (hp : (env.scope.kind == .class || (env.scope.kind == .module && env.locals != env.globals)) = false)
    (hs : ∀ x, foldedSetIterable iter env x = pure x) :
    wpAny (model prog w) A (exec (.Assign [.Name y py] (.ListComp (.Name x pe) [⟨.Name x px, iter, [.Compare (.Name x pc) [.In] [.Name on po] pp], 0⟩] scope pos) spos) env) Q E s := by
  let p : Value → Bool := fun v => match v with | .int k _ => (valueAt kvb k).isSome | _ => false
  refine wpAny_Assign_ListComp_free p (fun v y => v = y) hsw hclos hcell hkind hnames hx hy hp (hiter _ _ ?_) hs
  obtain ⟨ep, hat⟩ : ∃ ep, s.heap.DictAt (intKind prog w) Da kva ep := let ⟨es, ep, r⟩ := hda; ⟨ep, _, es, (N _ ha).1, r⟩
  refine wpAny_pyIter_dict loa hat ?_
  have hltD : @LT.lt Nat _ Da s.heap.objs.size := Heap.lt_size (N _ ha).1
  have hltC : @LT.lt Nat _ C s.heap.objs.size := Heap.lt_size (N _ hc).1
  have hltB : @LT.lt Nat _ Db s.heap.objs.size := Heap.lt_size (N _ hb).1
  have hLs := F.ns.lt
  have hne : Da ≠ s.heap.objs.size := Nat.ne_of_lt hltD
  have up : ∀ b o, s.heap.get? b = some o → (s.heap.push { cls := .type "dict_keyiterator", data := .fields #[.ref Da, .int 0 0, .int kva.length 0, .int ep 0] }).get? b = some o := fun b o e => Heap.get?_push_of_some _ e
  refine ⟨_, _, _, _, _, _, m, rfl, Walks.dictKeys hh s.heap.objs.size Da hne kva ep, by rw [sizeLine_eq]; omega, ⟨⟨_, Heap.get?_push_size _ rfl, rfl, rfl⟩, hat.at' fun o e => up _ o e⟩, ?_, ?_, F.ns.at' fun o e => up _ o e, ?_, ?_⟩
  · intro b hb
    rw [Heap.size_push]
    simp only [List.mem_cons, List.not_mem_nil, or_false] at hb
    rcases hb with rfl | rfl
    · exact Nat.lt_succ_self _
    · exact Nat.lt_succ_of_lt hltD
  · simp only [List.mem_singleton]
    exact Nat.ne_of_lt hLs
  · constructor
    · rintro C' i v s₃ m₃ E' hC ⟨k, x', hkx, hkv⟩ hns hm hk htk
      obtain ⟨t, rfl⟩ := Value.isInt_shape hkv
      have k3 : ∀ b o, @LT.lt Nat _ b s.heap.objs.size → s.heap.get? b = some o → s₃.heap.get? b = some o := fun b o hlt e => hk b o (by simp only [List.mem_singleton]; exact Nat.ne_of_lt hlt) (up b o e)
      refine wpAny_tests_one (wpAny_isTrue_Compare1 ?_ rfl)
      refine wpAny_Name (wpAny_loadName_local (by simp [compEnvC, relabel, hkind]) (lookup_relabel_local hx) hns hm ?_) hdbx
      refine wpAny_Name (wpAny_loadName_cell (by simp [compEnvC, relabel, hkind]) (hko C') (c := C) (by simp [compEnvC]) ⟨oc, k3 _ _ hltC (N _ hc).1, hcd⟩ ?_) hdbo
      refine wpAny_in_of (knd := intKind prog w) (k := k) (by simp [intKind, Value.isInt]) lob ((Heap.dictOf_iff.mpr ⟨_, k3 _ _ hltB (N _ hb).1, hdb⟩).mapOf) ?_
      exact wpAny_truthy_bool ⟨rfl, s₃.heap, _, rfl, fun _ _ e => e⟩
    · rintro C' i v s₃ m₃ E' hC _ _ hns hm hk htk
      exact wpAny_Name (wpAny_loadName_local (by simp [compEnvC, relabel, hkind]) (lookup_relabel_local hx) hns hm ⟨rfl, s₃.heap, _, rfl, fun _ _ e => e⟩) hdbx
  · intro D h' tk ys vs hD hl hpl hvl hvs hpair hns hkeep
    obtain ⟨n, hget⟩ := hpl
    have k2 : ∀ b o, b ≠ env.locals → s.heap.get? b = some o → h'.get? b = some o := fun b o hb e => hkeep b o hb (by simp only [List.mem_singleton]; exact Nat.ne_of_lt (Heap.lt_size e)) (up b o e)
    have hDn : s.heap.get? D = none := TT.none_of up hD
    have hLb : ∀ b o, base.get? b = some o → b ≠ env.locals := fun b o e => Nat.ne_of_lt (Nat.lt_of_lt_of_le (Heap.lt_size e) F.above)
    have hys : ys = ys.toList.toArray := by simp
    refine h D h' ys.toList tk n ⟨hns, fun b o e => k2 b o (hLb b o e) (F.keep b o e), F.above⟩ (fun q hq => ?_) (fun q hq e => ?_) ?_
    · rcases List.mem_cons.mp hq with rfl | hq
      · refine ⟨hget, ?_, TT.none_of F.keep hDn⟩
        intro e
        obtain ⟨oL, esL, epL, hL, r⟩ := F.ns
        dsimp only at e
        rw [e, hL] at hDn; cases hDn
      · obtain ⟨x1, x2, x3⟩ := N q hq
        exact ⟨k2 _ _ x2 x1, x2, x3⟩
    · have := (N q hq).1
      rw [e, hDn] at this; cases this
    · rw [← paired_eq hpair]
      refine ints_filter (fun k t => rfl) (keys_ints (by rw [hvl, List.length_map]) fun j v hv => ?_)
      obtain ⟨k, x', hkx, hkv⟩ := hvs j v hv
      exact ⟨k, by rw [List.getElem?_map, hkx]; rfl, hkv⟩
end
end
section
open PySem PySem.W PyProof.Rows PyProof.V PySem.Spec PySem.Calls
structure ExcNew (h h' : Heap) (e : Addr) (X : String) (c : Value) : Prop where
  keeps : ∀ b o, h.get? b = some o → h'.get? b = some o
  new : h.get? e = none
  there : ∃ ob vs, h'.get? e = some ob ∧ ob.cls = .type X ∧ ob.data = .fields vs ∧ 2 < vs.size ∧ vs[1]? = some .none ∧ vs[2]? = some c
structure FlyObj (oe oT : Obj) (T : Addr) (X : String) (fl c : Value) : Prop where
  cls : oe.cls = .type X
  flds : ∃ vs, oe.data = .fields vs ∧ 2 < vs.size ∧ vs[1]? = some (.ref T) ∧ vs[2]? = some c
  ent : ∃ ts, oT.data = .fields ts ∧ ts[3]? = some fl

/-- what the code runs under: nothing, or one exception without a context -/
def Handles (A : Around) (h : Heap) (c : Value) : Prop := (A.handled = none ∧ c = .none) ∨ ∃ e1 o1 vs1, c = .ref e1 ∧ A.handled = some (.ref e1) ∧ h.get? e1 = some o1 ∧ o1.data = .fields vs1 ∧
  (vs1[2]? = some .none ∨ ∃ e0 o0 vs0, vs1[2]? = some (.ref e0) ∧ e0 ≠ e1 ∧ h.get? e0 = some o0 ∧ o0.data = .fields vs0 ∧ vs0[2]? = some .none)
theorem Handles.no {A : Around} {h : Heap} (hh : A.handled = none) : Handles A h .none := .inl ⟨hh, rfl⟩

section
variable {prog : Program} {w : World} {A : Around} {E : Value → Shared → Prop} {s : Shared} {α : Type}
theorem entry_unchain : entryFor table "proto.unchain" = some Builtin.«proto.unchain» := entryFor_of_fast (by rw [fastTable_eq_tree]; kernel_rfl)

theorem raise_new {e : Addr} {X : String} {h0 : Heap} {c : Value} {Q : α → Shared → Prop} (hk : ∀ b o, h0.get? b = some o → s.heap.get? b = some o) (hn : h0.get? e = none)
    (ht : ∃ ob vs, s.heap.get? e = some ob ∧ ob.cls = .type X ∧ ob.data = .fields vs ∧ 2 < vs.size ∧ vs[1]? = some .none ∧ vs[2]? = some .none) (hh : Handles A h0 c)
    (h : ∀ h', ExcNew h0 h' e X c → E (.ref e) { s with heap := h' }) : wpAny (model prog w) A (raiseNew (.ref e) : Sem α) Q E s := by
  unfold raiseNew
  refine wpAny_bind (wpAny_handled ?_)
  rcases hh with ⟨hh, rfl⟩ | ⟨e1, o1, vs1, rfl, hh, h1, hd1, hvv⟩
  · rw [hh]
    exact wpAny_bind (wpAny_pure (wpAny_throw (h _ ⟨hk, hn, ht⟩)))
  · rw [hh]
    have hne : (Value.ref e1 != Value.ref e) = true := by
      have : e1 ≠ e := by rintro rfl; rw [h1] at hn; cases hn
      simp [this]
    obtain ⟨ob, vs, ho, hc, hd, hsz, hv, hv2⟩ := ht
    dsimp only
    rw [if_pos hne]
    have done : wpAny (model prog w) A (setField (.ref e) 2 (.ref e1) >>= fun _ => (throw (.ref e) : Sem α)) Q E s := by
      refine wpAny_bind (wpAny_setField ho hd (by omega) (wpAny_throw (h _ ⟨fun b o hb => ?_, hn, _, _, Heap.get?_update_self _ ho (Obj.isFreed_of_fields (Obj.data_mapFields hd _)), ?_, Obj.data_mapFields hd _, ?_, ?_, ?_⟩)))
      · exact (Heap.get?_update_ne _ _ _ _ (fun q => by rw [q, hn] at hb; cases hb)).trans (hk b o hb)
      · rw [Obj.cls_mapFields]; exact hc
      · rw [Array.size_setIfInBounds]; exact hsz
      · rw [Array.getElem?_setIfInBounds_ne (by decide)]; exact hv
      · rw [Array.getElem?_setIfInBounds_self_of_lt (by omega)]
    refine wpAny_bind (wpAny_holding (wpAny_runValue (codeAny_builtin entry_unchain ?_)))
    unfold Builtin.«proto.unchain»
    rcases hvv with hv1 | ⟨e0, o0, vs0, hv1, he01, h0', hd0, hv0⟩
    · refine wpAny_bind (wpAny_field (hk _ _ h1) hd1 hv1 ?_)
      rw [if_pos (show (Value.none == Value.none) = true from by decide)]
      exact wpAny_pure done
    · refine wpAny_bind (wpAny_field (hk _ _ h1) hd1 hv1 ?_)
      have n0 : e0 ≠ e := by rintro rfl; rw [h0'] at hn; cases hn
      rw [if_neg (by simp), if_neg (by simp [n0]), if_neg (by simp [he01])]
      dsimp only
      rw [if_neg (by decide)]
      refine wpAny_bind (wpAny_pure (wpAny_pure ⟨Code.quiet_builtin _ (by decide +kernel), codeAny_builtin entry_unchain ?_⟩))
      unfold Builtin.«proto.unchain»
      refine wpAny_bind (wpAny_field (hk _ _ h0') hd0 hv0 ?_)
      rw [if_pos (show (Value.none == Value.none) = true from by decide)]
      exact wpAny_pure done

theorem raise_words {cls msg : String} {c : Value} {Q : α → Shared → Prop} (hp : PlainExc cls) (hh : Handles A s.heap c)
    (h : ∀ h' tk e, ExcNew s.heap h' e cls c → E (.ref e) { s with heap := h', toks := tk }) :
    wpAny (model prog w) A (raiseErrorWords cls msg : Sem α) Q E s := by
  unfold raiseErrorWords
  refine wpAny_bind (wpAny_mkText (wpAny_bind ?_))
  unfold newExc newTuple
  refine wpAny_bind (wpAny_newObj_type ?_)
  refine wpAny_bind (m := firstArgMember _ _) (wpAny_of_eq (a := Value.none) (by simp only [firstArgMember, hp.first]; rfl) ?_)
  rw [hp.own]
  refine wpAny_newObj_type ?_
  refine raise_new (h0 := s.heap) (X := cls) (fun b o hb => Heap.get?_push_of_some _ (Heap.get?_push_of_some _ hb)) (Heap.get?_none_of_le (by simp)) ⟨_, _, Heap.get?_push_size _ rfl, rfl, rfl, (by simp), rfl, rfl⟩ hh fun h' x => h h' _ _ x
theorem raise_made {cls msg : String} {c : Value} {Q : α → Shared → Prop} (hp : PlainExc cls) (hh : Handles A s.heap c)
    (h : ∀ h' tk e, ExcNew s.heap h' e cls c → E (.ref e) { s with heap := h', toks := tk }) (hm : (msg : Str).length ≤ sizeLine := by size_fits) :
    wpAny (model prog w) A (raiseErrorMade cls msg : Sem α) Q E s := by
  unfold raiseErrorMade
  refine wpAny_bind (wpAny_mkStr (wpAny_bind ?_) hm)
  unfold newExc newTuple
  refine wpAny_bind (wpAny_newObj_type ?_)
  refine wpAny_bind (m := firstArgMember _ _) (wpAny_of_eq (a := Value.none) (by simp only [firstArgMember, hp.first]; rfl) ?_)
  rw [hp.own]
  refine wpAny_newObj_type ?_
  refine raise_new (h0 := s.heap) (X := cls) (fun b o hb => Heap.get?_push_of_some _ (Heap.get?_push_of_some _ hb)) (Heap.get?_none_of_le (by simp)) ⟨_, _, Heap.get?_push_size _ rfl, rfl, rfl, (by simp), rfl, rfl⟩ hh fun h' x => h h' _ _ x

theorem getItem_list_out {l : Addr} {items : Array Value} {k : Int} {t : Tok} {c : Value} {Q : Value → Shared → Prop} (hA : Handles A s.heap c) (hl : s.heap.IsList l items)
    (h0 : 0 ≤ k) (hout : (items.size : Int) ≤ k) (hhi : k < 2 ^ 63)
    (hE : ∀ h' tk e, ExcNew s.heap h' e "IndexError" c → E (.ref e) { s with heap := h', toks := tk }) :
    wpAny (model prog w) A (getItem (.ref l) (.int k t)) Q E s := by
  obtain ⟨o, ho, hc, ne, hd⟩ := id hl
  unfold getItem
  try with_reducible refine wpAny_holding ?_
  refine wpAny_bind (wpAny_sequenceKey hl.typeIs (by decide) ?_)
  refine wpAny_bind (wpAny_callSpecial?_slot (name := Str.ofString "__getitem__") hl.typeIs slot_list_getitem
    (wpAny_call_entry slot_list_getitem hl.typeIs entry_list_getitem ?_ (args_list_getitem _ _)))
  show wpAny _ _ (Builtin.List.listSubscript? (.int k t) >>= _) _ _ s
  refine wpAny_bind (wpAny_listSubscript_int (fitsIndex_both (by omega) hhi) ?_)
  clear hhi
  obtain ⟨j, rfl⟩ := Int.eq_ofNat_of_zero_le h0
  have hx : items[j]? = none := Array.getElem?_eq_none (by omega)
  show wpAny _ _ ((seqItemAt l j >>= fun r => pure (r.map (j, ·))) >>= _) _ _ s
  refine wpAny_bind (wpAny_bind (wpAny_seqItemAt ho hd (wpAny_pure ?_)))
  rw [hx]
  have hA' : Handles A.in1 s.heap c := hA
  first
    | exact wpAny_bind (wpAny_rule (raise_words plainExc_IndexError hA hE))
    | exact wpAny_bind (wpAny_rule (wpAny_bind (raise_words plainExc_IndexError hA hE)))
    | exact wpAny_bind (wpAny_bind (wpAny_rule (raise_words plainExc_IndexError hA hE)))
    | exact wpAny_rule (raise_words plainExc_IndexError hA hE)
    | exact wpAny_bind (wpAny_rule (raise_words plainExc_IndexError hA' hE))
    | exact wpAny_bind (wpAny_rule (wpAny_bind (raise_words plainExc_IndexError hA' hE)))
    | exact wpAny_bind (wpAny_bind (wpAny_rule (raise_words plainExc_IndexError hA' hE)))

def raisesH (cls : String) : PySem.Spec := fun A R s => ∃ c, Handles A s.heap c ∧ ∀ h' tk e, ExcNew s.heap h' e cls c → R (.error (.ref e)) { s with heap := h', toks := tk }
theorem tuple_getitem_outH (l : Addr) (items : Array Value) (n : Nat) (i : Int) (u : Tok) (hlo : -2 ^ 63 ≤ i) (hhi : i < 2 ^ 63) (hk : seqIndex? i items.size = none) :
    Meets (Builtin.«tuple.__getitem__» ⟨[.ref l, .int i u], []⟩)
      (fun A R s => s.heap.get? l = some { cls := .type "tuple", dict := none, data := .seq items n, slots := #[] } ∧ raisesH "IndexError" A R s) :=
  .of_wp fun prog w A R s h => by
    obtain ⟨hp, g, d, tk, os⟩ := s; obtain ⟨hl, c, hA, h⟩ := h
    have f1 := AutoSeq1.idx_int
    have hf : ¬ (decide (i < -2 ^ 63) || decide (i ≥ 2 ^ 63)) = true := by simp; omega
    have hA' : Handles A.in1 hp c := hA
    wp_walk using wpAny_loadPart' hl
    simp only [hk, Option.bind_none]
    refine wpAny_ite_false (by simp; omega) ?_
    wp_walk
    first | exact raise_words plainExc_IndexError hA' h | exact raise_made plainExc_IndexError hA' h
open Builtin Builtin.Str Builtin.Int in
theorem str_getitem_outH (x : Str) (i : Int) (t u : Tok) (hr : (decide (i < -(2 ^ 63 : Int)) || decide (i ≥ 2 ^ 63)) = false) (h : (seqIndex? i x.length).bind (x.cps[·]?) = none) :
    Meets («str.__getitem__» ⟨[.str x t, .int i u], []⟩) (raisesH "IndexError") := by
  intro prog w A R s hS
  obtain ⟨c, hA, hS⟩ := hS
  have hA' : Handles A.in1 s.heap c := hA
  show wpAny _ _ (if (decide (i < -(2 ^ 63 : Int)) || decide (i ≥ 2 ^ 63)) = true then _ else
          match (seqIndex? i x.length).bind (x.cps[·]?) with
          | some c => retStr ⟨#[c]⟩
          | none => _) _ _ s
  rw [hr, h]
  first
    | exact wpAny_bind (wpAny_rule (raise_words plainExc_IndexError hA' hS))
    | exact wpAny_bind (wpAny_rule (wpAny_bind (raise_words plainExc_IndexError hA' hS)))
theorem getItem_tuple_out {l : Addr} {items : Array Value} {n : Nat} {k : Int} {t : Tok} {c : Value} {Q : Value → Shared → Prop} (hA : Handles A s.heap c) (hl : s.heap.get? l = some { cls := .type "tuple", dict := none, data := .seq items n, slots := #[] })
    (h0 : 0 ≤ k) (hout : (items.size : Int) ≤ k) (hhi : k < 2 ^ 63)
    (hE : ∀ h' tk e, ExcNew s.heap h' e "IndexError" c → E (.ref e) { s with heap := h', toks := tk }) :
    wpAny (model prog w) A (getItem (.ref l) (.int k t)) Q E s := by
  refine getItem_meets ⟨_, hl, rfl⟩ (by decide) slot_tuple_getitem entry_tuple_getitem (args_tuple_getitem _ _) (tuple_getitem_outH l items n k t (by omega) hhi ?_) ⟨hl, c, hA, hE⟩
  unfold seqIndex?
  simp only [show ¬ k < 0 by omega, if_false]
  rw [if_neg]
  simp only [Bool.and_eq_true, decide_eq_true_eq]
  omega
theorem getItem_str_out {x : Str} {tx : Tok} {k : Int} {t : Tok} {c : Value} {Q : Value → Shared → Prop} (hA : Handles A s.heap c)
    (h0 : 0 ≤ k) (hout : (x.length : Int) ≤ k) (hhi : k < 2 ^ 63)
    (hE : ∀ h' tk e, ExcNew s.heap h' e "IndexError" c → E (.ref e) { s with heap := h', toks := tk }) :
    wpAny (model prog w) A (getItem (.str x tx) (.int k t)) Q E s := by
  refine getItem_meets (typeIs_str s x tx) (by decide) F.slot_str_getitem F.entry_str_getitem (F.args_str_getitem_2 _ _) (str_getitem_outH x k tx t ?_ ?_) ⟨c, hA, hE⟩
  · simp only [Bool.or_eq_false_iff, decide_eq_false_iff_not]; omega
  · have : seqIndex? k x.length = none := by
      unfold seqIndex?
      simp only [show ¬ k < 0 by omega, if_false]
      rw [if_neg]
      simp only [Bool.and_eq_true, decide_eq_true_eq]
      omega
    rw [this]; rfl
end
end
section
open PySem PySem.W PyProof.Rows PyProof.V PySem.Spec PySem.Calls PyProof.Rows.TT PyProof.Rows.TI
section
variable {prog : Program} {w : World} {A : Around} {E : Value → Shared → Prop} {s s' : Shared} {α : Type}
theorem note_first {bs h : Heap} {L L0 a e : Addr} {m : Str → Option Value} {name : Str} {scope : Scope} {cd : Value} {new : List (Addr × Obj)} {oL0 : Obj} {env0 : Env} {X : String} {c : Value} {Q : Unit → Shared → Prop}
    (hfr : A.frames = some [envOf name scope L a cd, env0]) (Fs : Frs [env0] [(L0, oL0)]) (hx : ExcNew h s'.heap e X c) (F : Fr bs L h m) (N : News bs L h (new ++ [(L0, oL0)])) (hne : ∀ p ∈ new, p.1 ≠ L0)
    (k : ∀ h' T oe oT sl, Frs [env0] [(L0, { oL0 with slots := sl })] → Fr bs L h' m → News bs L h' ((e, oe) :: (T, oT) :: (new ++ [(L0, { oL0 with slots := sl })])) → FlyObj oe oT T X (rawInt L) c →
      e ≠ T → (∀ p ∈ new, p.1 ≠ e ∧ p.1 ≠ T) → L0 ≠ e → L0 ≠ T → Q () { s' with heap := h' }) (hk : scope.kind = .function) :
    wpAny (model prog w) A (noteFrame (.ref e) (envOf name scope L a cd)) Q E s' := by
  obtain ⟨ob, vs, he, hcls, hd, hsz, hv1, hv2⟩ := hx.there
  obtain ⟨hff, hNs, frs₁, SU, ht⟩ := frames_at (name := name) (a := a) (cd := cd) (h' := s'.heap) (base := gone h (L :: [(L0, oL0)].map (·.1))) hk Fs F N tail_sub (fun b o hb' => ⟨o.slots, hx.keeps b o hb'⟩) fun b hm => gone_none hm
  have hLm : L ≠ L0 := fun q => (N (L0, oL0) (List.mem_append_right _ (.head _))).2.1 q.symm
  have hLe : L ≠ e := fun q => by obtain ⟨o, _, _, ho, _⟩ := F.ns; rw [q, hx.new] at ho; cases ho
  have hL0h := (N (L0, oL0) (List.mem_append_right _ (.head _))).1
  have hL0e : L0 ≠ e := fun q => by rw [q, hx.new] at hL0h; cases hL0h
  have hfrs : (envOf name scope L a cd :: [env0]).filterMap (·.frame) = [L, L0] := frames_are Fs
  unfold noteFrame
  simp only [show (envOf name scope L a cd).frame = some L from rfl]
  refine wpAny_bind (wpAny_field he hd hv1 ?_)
  rw [if_neg (by decide)]
  refine wpAny_bind (wpAny_frameOf_fun hfr hff rfl fun h₁ hs₁ => ?_)
  rw [hfrs] at hs₁
  refine wpAny_bind (wpAny_entryPlaceOf fun pl hpl => ?_)
  unfold EntryCells.newEntry newFields
  refine wpAny_bind (wpAny_newObj_type ?_ (hpl.sizeOk5 _ _ _ _ _))
  have hen : e ∉ [L, L0] := by simp [Ne.symm hLe, Ne.symm hL0e]
  have he₁ : h₁.get? e = some ob := (hs₁.2.1 e hen).trans he
  have up₁ : ∀ b o, b ≠ L → b ≠ L0 → h.get? b = some o → h₁.get? b = some o := fun b o q1 q2 eb => (hs₁.2.1 b (by simp [q1, q2])).trans (hx.keeps b o eb)
  have hTf : ∀ b o, h₁.get? b = some o → b ≠ h₁.objs.size := fun b o eb => Nat.ne_of_lt (Heap.lt_size eb)
  have hTe : h₁.objs.size ≠ e := Nat.ne_of_gt (Heap.lt_size he₁)
  generalize hoT : ({ cls := .type "traceback", dict := none, data := .fields ([Value.none, .ref L, .none, rawInt L, .none] ++ (if pl.isEmpty then List.replicate 6 Value.none else pl)).toArray } : Obj) = oT
  have he₂ := Heap.get?_push_of_some (h := h₁) oT he₁
  refine wpAny_setField he₂ hd (by omega) ?_
  have hd₃ := Obj.data_mapFields hd (·.setIfInBounds 1 (Value.ref h₁.objs.size))
  have up₂ : ∀ b o, b ≠ e → h₁.get? b = some o → ((h₁.push oT).update e (Obj.mapFields (·.setIfInBounds 1 (Value.ref h₁.objs.size)))).get? b = some o := fun b o q eb => by
    rw [Heap.get?_update_other _ _ (Ne.symm q)]
    exact Heap.get?_push_of_some _ eb
  obtain ⟨oL, es, ep, hL, r⟩ := F.ns
  obtain ⟨slL, hL₁⟩ := hs₁.2.2 L oL (hx.keeps _ _ hL)
  obtain ⟨sl0, hL0₁⟩ := hs₁.2.2 L0 oL0 (hx.keeps _ _ hL0h)
  have hbs : ∀ b o, bs.get? b = some o → b ≠ L ∧ b ≠ L0 ∧ b ≠ e := fun b o eb =>
    ⟨Nat.ne_of_lt (Nat.lt_of_lt_of_le (Heap.lt_size eb) F.above), (fun q => by have := (N (L0, oL0) (List.mem_append_right _ (.head _))).2.2; rw [q, this] at eb; cases eb), (fun q => by have := F.keep b o eb; rw [q, hx.new] at this; cases this)⟩
  have hTb : bs.get? h₁.objs.size = none := TT.none_of (fun b o eb => up₁ b o (hbs b o eb).1 (hbs b o eb).2.1 (F.keep b o eb)) (Heap.get?_none_of_le (Nat.le_refl _))
  have heb : bs.get? e = none := TT.none_of F.keep hx.new
  have hTL : h₁.objs.size ≠ L := Ne.symm (hTf _ _ hL₁)
  have hTL0 : L0 ≠ h₁.objs.size := hTf _ _ hL0₁
  have hne' : ∀ p ∈ new, p.1 ≠ L ∧ p.1 ≠ L0 ∧ p.1 ≠ e ∧ h.get? p.1 = some p.2 := fun p hp => by
    have x := N p (List.mem_append_left _ hp)
    exact ⟨x.2.1, hne p hp, (fun q => by have := x.1; rw [q, hx.new] at this; cases this), x.1⟩
  refine k _ h₁.objs.size (Obj.mapFields (·.setIfInBounds 1 (Value.ref h₁.objs.size)) ob) oT sl0 (Fs.up (b := [(L0, { oL0 with slots := sl0 })]) ⟨rfl, ⟨sl0, rfl⟩, trivial⟩) ⟨⟨_, es, ep, up₂ L _ hLe hL₁, r⟩, fun b o eb => up₂ b o (hbs b o eb).2.2 (up₁ b o (hbs b o eb).1 (hbs b o eb).2.1 (F.keep b o eb)), F.above⟩ (fun p hp => ?_)
    ⟨by rw [Obj.cls_mapFields]; exact hcls, ⟨_, hd₃, by rw [Array.size_setIfInBounds]; exact hsz, by rw [Array.getElem?_setIfInBounds_self_of_lt (by omega)], by rw [Array.getElem?_setIfInBounds_ne (by decide)]; exact hv2⟩, ⟨_, by rw [← hoT], by rfl⟩⟩ (Ne.symm hTe)
    (fun p hp => ⟨(hne' p hp).2.2.1, hTf _ _ (up₁ _ _ (hne' p hp).1 (hne' p hp).2.1 (hne' p hp).2.2.2)⟩) hL0e hTL0
  rcases List.mem_cons.mp hp with rfl | hp
  · exact ⟨Heap.get?_update_self _ he₂ (Obj.isFreed_of_fields hd₃), Ne.symm hLe, heb⟩
  rcases List.mem_cons.mp hp with rfl | hp
  · exact ⟨(Heap.get?_update_other _ _ (Ne.symm hTe)).trans (Heap.get?_push_size _ (by rw [← hoT]; rfl)), hTL, hTb⟩
  rcases List.mem_append.mp hp with hp | hp
  · obtain ⟨q1, q2, q3, q4⟩ := hne' p hp
    exact ⟨up₂ _ _ q3 (up₁ _ _ q1 q2 q4), q1, (N p (List.mem_append_left _ hp)).2.2⟩
  · rw [List.mem_singleton.mp hp]
    exact ⟨up₂ _ _ hL0e hL0₁, Ne.symm hLm, (N (L0, oL0) (List.mem_append_right _ (.head _))).2.2⟩

/-- the exception flies in this frame already -/
theorem note_again {bs : Heap} {L e T : Addr} {m : Str → Option Value} {news : List (Addr × Obj)} {oe oT : Obj} {env : Env} {X : String} {c : Value} {Q : Unit → Shared → Prop}
    (hL : env.frame = some L) (N : News bs L s.heap news) (he : (e, oe) ∈ news) (hT : (T, oT) ∈ news) (fl : FlyObj oe oT T X (rawInt L) c) (h : Q () s) :
    wpAny (model prog w) A (noteFrame (.ref e) env) Q E s := by
  obtain ⟨vs, hd, hsz, h1, h2⟩ := fl.flds
  obtain ⟨ts, ht, h3⟩ := fl.ent
  unfold noteFrame
  rw [hL]
  dsimp only
  refine wpAny_bind (wpAny_field (N _ he).1 hd h1 ?_)
  rw [if_pos (by simp)]
  refine wpAny_bind (wpAny_field (N _ hT).1 ht h3 ?_)
  rw [if_pos (by simp)]
  exact wpAny_pure h
theorem set_flight {bs : Heap} {L e T : Addr} {m : Str → Option Value} {post : List (Addr × Obj)} {oe oT : Obj} {X : String} {fl c : Value} {fr : Option Addr} {Q : Unit → Shared → Prop}
    (F : Fr bs L s.heap m) (N : News bs L s.heap ((e, oe) :: (T, oT) :: post)) (hT : FlyObj oe oT T X fl c) (hne : e ≠ T) (hp : ∀ p ∈ post, p.1 ≠ T)
    (h : ∀ h' oT', Fr bs L h' m → News bs L h' ((e, oe) :: (T, oT') :: post) → FlyObj oe oT' T X (fr.elim .none fun f => rawInt f) c → Q () { s with heap := h' }) :
    wpAny (model prog w) A (setFlight (.ref e) fr) Q E s := by
  obtain ⟨vs, hd, hsz, h1, h2⟩ := hT.flds
  obtain ⟨ts, ht, h3⟩ := hT.ent
  have nT := N (T, oT) (.tail _ (.head _))
  have hlt : 3 < ts.size := (Array.getElem?_eq_some_iff.mp h3).1
  unfold setFlight
  refine wpAny_bind (wpAny_field (N (e, oe) (.head _)).1 hd h1 ?_)
  rw [if_pos (by simp)]
  have hd₃ := Obj.data_mapFields ht (·.setIfInBounds 3 (fr.elim .none fun f => rawInt f))
  refine wpAny_setField nT.1 ht hlt (h _ (Obj.mapFields (·.setIfInBounds 3 (fr.elim .none fun f => rawInt f)) oT) (F.change (Heap.SameBut.update ..) nT.2.1 nT.2.2) (N.setIn (own := [(e, oe)]) (fun p hp => by rw [List.mem_singleton.mp hp]; exact hne) hp (Heap.SameBut.update ..) (Heap.get?_update_self _ nT.1 (Obj.isFreed_of_fields hd₃))) ⟨hT.cls, ⟨vs, hd, hsz, h1, h2⟩, _, hd₃, ?_⟩)
  rw [Array.getElem?_setIfInBounds_self_of_lt hlt]

/-- what a raising activation of this frame does on its way out, and what the code after it does with it -/
theorem pass_on {bs : Heap} {L e T : Addr} {m : Str → Option Value} {post : List (Addr × Obj)} {oe oT : Obj} {env : Env} {X : String} {fl c : Value} {what : String} {Q : α → Shared → Prop}
    (hL : env.frame = some L) (F : Fr bs L s.heap m) (N : News bs L s.heap ((e, oe) :: (T, oT) :: post)) (hT : FlyObj oe oT T X fl c) (hne : e ≠ T) (hp : ∀ p ∈ post, p.1 ≠ T)
    (h : ∀ h' oT', Fr bs L h' m → News bs L h' ((e, oe) :: (T, oT') :: post) → FlyObj oe oT' T X (rawInt L) c → E (.ref e) { s with heap := h' }) :
    wpAny (model prog w) A (PySem.passOn what (.ref e) env : Sem α) Q E s := by
  obtain ⟨vs, hd, hsz, h1, h2⟩ := hT.flds
  unfold PySem.passOn
  refine wpAny_bind (wpAny_field (N (e, oe) (.head _)).1 hd h1 ?_)
  rw [if_neg (by simp), hL]
  dsimp only
  refine wpAny_bind (set_flight F N hT hne hp fun h' oT' F' N' T' => wpAny_throw (h h' oT' F' N' T'))
theorem came_back {bs : Heap} {L e T : Addr} {m : Str → Option Value} {post : List (Addr × Obj)} {oe oT : Obj} {env : Env} {X : String} {fl c : Value}
    (hL : env.frame = some L) (F : Fr bs L s.heap m) (N : News bs L s.heap ((e, oe) :: (T, oT) :: post)) (hT : FlyObj oe oT T X fl c) (hne : e ≠ T) (hp : ∀ p ∈ post, p.1 ≠ T)
    (h : ∀ h' oT', Fr bs L h' m → News bs L h' ((e, oe) :: (T, oT') :: post) → FlyObj oe oT' T X (rawInt L) c → E (.ref e) { s with heap := h' }) :
    cameBackBy (model prog w) A env E (.ref e) s := by
  obtain ⟨vs, hd, hsz, h1, h2⟩ := hT.flds
  unfold cameBackBy
  refine wpAny_bind (wpAny_field (N (e, oe) (.head _)).1 hd h1 ?_)
  rw [if_neg (by simp), hL]
  dsimp only
  exact set_flight F N hT hne hp fun h' oT' F' N' T' => h h' oT' F' N' T'

theorem index_clause {bs : Heap} {L e T : Addr} {m : Str → Option Value} {post : List (Addr × Obj)} {oe oT : Obj} {env : Env} {fl c : Value} {t : Expr} {b₀ : Stmt} {suite : List Stmt} {pos : Pos} {rest : List ExceptHandler} {Q : Flow → Shared → Prop}
    (hname : ∀ (Q' : Value → Shared → Prop) E', Q' (.type "IndexError") s → wpAny (model prog w) (A.mark (some (.ref e))) (eval t env) Q' E' s)
    (F : Fr bs L s.heap m) (N : News bs L s.heap ((e, oe) :: (T, oT) :: post)) (hT : FlyObj oe oT T "IndexError" fl c) (hne : e ≠ T) (hp : ∀ p ∈ post, p.1 ≠ T)
    (k : ∀ h' oT', Fr bs L h' m → News bs L h' ((e, oe) :: (T, oT') :: post) → FlyObj oe oT' T "IndexError" .none c →
      wpAny (model prog w) (A.mark (some (.ref e))) (execs (b₀ :: suite) env) Q (fun _ _ => False) { s with heap := h' }) :
    wpAny (model prog w) A (handleBy (.ref e) env (.ExceptHandler (some t) none (b₀ :: suite) pos :: rest)) Q E s := by
  refine wpAny_handleBy_builtin (X := "IndexError") (T := "IndexError") (b := true) (isSubtype_of_subB (by decide +kernel)) (isSubtype_of_subB (by decide +kernel)) (isSubtype_of_subB (by decide +kernel)) (hname _ _ ⟨rfl, ⟨oe, (N _ (.head _)).1, hT.cls⟩, ?_⟩)
  rw [if_pos rfl]
  exact set_flight F N hT hne hp fun h' oT' F' N' T' => wpAny_noRaise (k h' oT' F' N' T')

/-- what the outer try does with a raise that its frame has noted -/
theorem caught {bs : Heap} {L e T : Addr} {m : Str → Option Value} {post : List (Addr × Obj)} {oe oT : Obj} {env : Env} {c : Value} {t : Expr} {b₀ : Stmt} {suite : List Stmt} {pos : Pos} {rest : List ExceptHandler} {Q : Flow → Shared → Prop}
    (hname : ∀ h (Q' : Value → Shared → Prop) E', Fr bs L h m → Q' (.type "IndexError") { s with heap := h } → wpAny (model prog w) (A.mark (some (.ref e))) (eval t env) Q' E' { s with heap := h })
    (hL : env.frame = some L) (F : Fr bs L s.heap m) (N : News bs L s.heap ((e, oe) :: (T, oT) :: post)) (hT : FlyObj oe oT T "IndexError" (rawInt L) c) (hne : e ≠ T) (hp : ∀ p ∈ post, p.1 ≠ T)
    (k : ∀ h' oT', Fr bs L h' m → News bs L h' ((e, oe) :: (T, oT') :: post) → FlyObj oe oT' T "IndexError" .none c →
      wpAny (model prog w) (A.mark (some (.ref e))) (execs (b₀ :: suite) env) Q (fun _ _ => False) { s with heap := h' }) :
    wpAny (model prog w) A (noteFrame (.ref e) env) (fun _ s₂ => wpAny (model prog w) A (setFlight (.ref e) none) (fun _ s₃ => wpAny (model prog w) A (handleBy (.ref e) env (.ExceptHandler (some t) none (b₀ :: suite) pos :: rest)) Q E s₃) E s₂) E s := by
  refine note_again (m := m) hL N (.head _) (.tail _ (.head _)) hT (set_flight F N hT hne hp fun h1 oT1 F1 N1 T1 => ?_)
  exact index_clause (s := { s with heap := h1 }) (fun Q' E' q => hname h1 Q' E' F1 q) F1 N1 T1 hne hp fun h2 oT2 F2 N2 T2 => k h2 oT2 F2 N2 T2

theorem caught_new {bs h : Heap} {L L0 a e : Addr} {m : Str → Option Value} {name : Str} {scope : Scope} {cd : Value} {new : List (Addr × Obj)} {oL0 : Obj} {env0 : Env} {c : Value} {t : Expr} {b₀ : Stmt} {suite : List Stmt} {pos : Pos} {rest : List ExceptHandler} {Q : Flow → Shared → Prop}
    (hfr : A.frames = some [envOf name scope L a cd, env0]) (Fs : Frs [env0] [(L0, oL0)]) (hx : ExcNew h s.heap e "IndexError" c) (F : Fr bs L h m) (N : News bs L h (new ++ [(L0, oL0)])) (hne : ∀ p ∈ new, p.1 ≠ L0)
    (hname : ∀ h (Q' : Value → Shared → Prop) E', Fr bs L h m → Q' (.type "IndexError") { s with heap := h } → wpAny (model prog w) (A.mark (some (.ref e))) (eval t (envOf name scope L a cd)) Q' E' { s with heap := h })
    (k : ∀ h' T oe oT sl, Fr bs L h' m → News bs L h' ((e, oe) :: (T, oT) :: (new ++ [(L0, { oL0 with slots := sl })])) → (∀ p ∈ new, p.1 ≠ e ∧ p.1 ≠ T) →
      wpAny (model prog w) (A.mark (some (.ref e))) (execs (b₀ :: suite) (envOf name scope L a cd)) Q (fun _ _ => False) { s with heap := h' }) (hk : scope.kind = .function) :
    wpAny (model prog w) A (noteFrame (.ref e) (envOf name scope L a cd)) (fun _ s₂ => wpAny (model prog w) A (setFlight (.ref e) none) (fun _ s₃ => wpAny (model prog w) A (handleBy (.ref e) (envOf name scope L a cd) (.ExceptHandler (some t) none (b₀ :: suite) pos :: rest)) Q E s₃) E s₂) E s := by
  refine note_first hfr Fs hx F N hne (fun h1 T oe oT sl Fs1 F1 N1 T1 hne1 hnew1 h01 h02 => ?_) hk
  have hp : ∀ p ∈ new ++ [(L0, { oL0 with slots := sl })], p.1 ≠ T := fun p hp => by
    rcases List.mem_append.mp hp with hp | hp
    · exact (hnew1 p hp).2
    · rw [List.mem_singleton.mp hp]; exact h02
  refine set_flight (s := { s with heap := h1 }) F1 N1 T1 hne1 hp fun h2 oT2 F2 N2 T2 => ?_
  exact index_clause (s := { s with heap := h2 }) (fun Q' E' q => hname h2 Q' E' F2 q) F2 N2 T2 hne1 hp fun h3 oT3 F3 N3 T3 => k h3 T oe oT3 sl F3 N3 hnew1

/-- a call from a frame of any kind, whose own frame lies in the ledger from now on -/
theorem call_inG {base : Heap} {L f : Addr} {m : Str → Option Value} {news : List (Addr × Obj)} {env : Env} {oc : Value} {K : Frag} {od : Option Addr} {osl : Array (Option Value)} {an : Option Addr} {Q : Value → Shared → Prop} {p : Program} {loose : List Str} {mean : ExcName → Option Value} {mg mb : Str → Option Value}
    {qual name : Str} {params : Arguments} {body : List Stmt} {scope : Scope} {dV kV doc pm cdv ct : Value} {args : List Value} {binds : List (Str × Value)}
    (F : Fr base L s.heap m) (N : News base L s.heap news) (X₀ : K.In base) (T : Top p loose mean mg mb base) (ho : K.lookup f = some ⟨oc, od, .func (fnOf name qual params body scope dV kV doc pm an cdv ct), osl⟩) (hcd : codeIn K cdv qual = true) (hroom : A.depth < recursionLimit)
    (hbind : BindsTo s (fnOf name qual params body scope dV kV doc pm an cdv ct) ⟨args, []⟩ binds) (hloc : ∀ y ∈ binds, scope.names.lookup y.1 = some .local)
    (hef : env.frame = some L) (hek : env.scope.kind ≠ .module)
    (h : ∀ oL h₁, Frs [env] [(L, oL)] → Fr base s.heap.objs.size h₁ (fun y => binds.reverse.lookup y) → News base s.heap.objs.size h₁ (news ++ [(L, oL)]) → (∀ q ∈ news, q.1 ≠ L) →
      wpAny (model prog w) (A.deeper (envOf qual scope s.heap.objs.size f cdv)) (execs body (envOf qual scope s.heap.objs.size f cdv))
        (fun fl s' => (∀ sl new, News base s.heap.objs.size s'.heap (new ++ [(L, { oL with slots := sl })]) → (∀ q ∈ new, q.1 ≠ L) → (∀ b o, base.get? b = some o → s'.heap.get? b = some o) → Fr base L s'.heap m ∧ News base L s'.heap new) → Q (match fl with | .ret v => v | _ => .none) s') (fun _ _ => False) { s with heap := h₁, toks := s.toks + binds.length })
    (hcell : ∀ x ∈ scope.names, x.2 ≠ .cell) (hco : scope.isCoroutine = false) (hgen : scope.isGenerator = false) (hk : scope.kind = .function) :
    wpAny (model prog w) A (call (.ref f) args) Q E s := by
  refine wpAny_call (codeAny_call_def (fd := fnOf name qual params body scope dV kV doc pm an cdv ct) (body := body) (binds := binds) hroom ((X₀.keeps F.keep) _ _ ho) rfl (T.nolimit.keeps F.keep) (codeRec_of (X₀.keeps F.keep) hcd) rfl hbind hcell hloc (fun h₁ hns hk₁ => ?_) hco hgen hk)
  obtain ⟨oL, es, ep, hL, hLd, hLk, hLf⟩ := F.ns
  have hLt := Heap.lt_size hL
  refine wpAny_mono (h oL h₁ ⟨hek, hef, ⟨es, ep, hLd⟩, trivial⟩ ⟨hns, fun b o e => hk₁ b o (F.keep b o e), Nat.le_trans F.above (Nat.le_of_lt hLt)⟩ (fun q hq => ?_) fun q hq => (N q hq).2.1) (fun _ s' x => x fun sl new N' hne hkeep => ?_) fun _ _ x => x.elim
  · rcases List.mem_append.mp hq with hq | hq
    · obtain ⟨h1, h2, h3⟩ := N q hq
      exact ⟨hk₁ _ _ h1, Nat.ne_of_lt (Heap.lt_size h1), h3⟩
    · rw [List.mem_singleton.mp hq]
      exact ⟨hk₁ _ _ hL, Nat.ne_of_lt hLt, Heap.get?_none_of_le F.above⟩
  · refine ⟨⟨⟨_, es, ep, (N' _ (List.mem_append_right _ (.head _))).1, hLd, hLk, hLf⟩, hkeep, F.above⟩, fun q hq => ?_⟩
    obtain ⟨x1, _, x3⟩ := N' q (List.mem_append_left _ hq)
    exact ⟨x1, hne q hq, x3⟩
end
end
section
open PySem PySem.W PyProof.Rows PyProof.V PySem.Spec PySem.Calls
section
variable {prog : Program} {w : World} {A : Around} {E : Value → Shared → Prop} {s : Shared}
theorem Handles.keep {h h' : Heap} {c : Value} (x : Handles A h c) (k : ∀ a, (A.handled = some (.ref a) ∨ ∃ e1 o1 vs1, A.handled = some (.ref e1) ∧ h.get? e1 = some o1 ∧ o1.data = .fields vs1 ∧ vs1[2]? = some (.ref a)) → ∀ o, h.get? a = some o → h'.get? a = some o) : Handles A h' c := by
  rcases x with x | ⟨e1, o1, vs1, rfl, hh, h1, hd1, hv⟩
  · exact .inl x
  · refine .inr ⟨e1, o1, vs1, rfl, hh, k e1 (.inl hh) _ h1, hd1, ?_⟩
    rcases hv with hv | ⟨e0, o0, vs0, hv, hne, h0, hd0, hv0⟩
    · exact .inl hv
    · exact .inr ⟨e0, o0, vs0, hv, hne, k e0 (.inr ⟨e1, o1, vs1, hh, h1, hd1, hv⟩) _ h0, hd0, hv0⟩
theorem Handles.up {h h' : Heap} {c : Value} (x : Handles A h c) (k : ∀ a o vs, o.data = .fields vs → h.get? a = some o → h'.get? a = some o) : Handles A h' c := by
  rcases x with x | ⟨e1, o1, vs1, rfl, hh, h1, hd1, hv⟩
  · exact .inl x
  · refine .inr ⟨e1, o1, vs1, rfl, hh, k e1 _ _ hd1 h1, hd1, ?_⟩
    rcases hv with hv | ⟨e0, o0, vs0, hv, hne, h0, hd0, hv0⟩
    · exact .inl hv
    · exact .inr ⟨e0, o0, vs0, hv, hne, k e0 _ _ hd0 h0, hd0, hv0⟩

theorem next_ascii_end {it : Addr} {x : Str} {t : Tok} {i : Nat} {c : Value} {Q : Option Value → Shared → Prop} (hh : Handles A s.heap c) (hit : s.heap.IsStrIter it "str_ascii_iterator" x t i) (hx : x.cps[i]? = none)
    (hit2 : ∀ h', (∀ b o, b ≠ it → s.heap.get? b = some o → h'.get? b = some o) → Handles A h' c) (hQ : ∀ h', Heap.ExtBut it s.heap h' → Q none { s with heap := h' }) : wpAny (model prog w) A (pyNext (.ref it)) Q E s := by
  obtain ⟨o, ho, hc, hd⟩ := id hit
  unfold pyNext
  refine wpAny_bind (wpAny_attempt (wpAny_callSpecial?_slot (name := Str.ofString "__next__") hit.typeIs F.slot_str_ascii_iterator_next
    (wpAny_call_entry F.slot_str_ascii_iterator_next hit.typeIs F.entry_str_ascii_iterator_next ?_ (F.args_str_ascii_iterator_next_1 _))))
  show wpAny _ _ (field (.ref it) 0 >>= _) _ _ s
  refine wpAny_bind (wpAny_field ho hd (x := .str x t) rfl ?_)
  show wpAny _ _ (field (.ref it) 1 >>= _) _ _ s
  refine wpAny_bind (wpAny_field ho hd (x := .int i 0) rfl ?_)
  simp only [Int.toNat_natCast, hx]
  refine wpAny_bind (wpAny_rule (wpAny_bind (wpAny_setField ho hd (by simp) (wpAny_bind (wpAny_letGo ?_)))))
  show wpAny _ _ (newExc (.type "StopIteration") [] >>= _) _ _ _
  refine wpAny_bind ?_
  simp only [newExc, newTuple]
  refine wpAny_bind (wpAny_newObj_type ?_ (by size_fits))
  refine wpAny_bind (m := firstArgMember _ _) (wpAny_of_eq (a := Value.none) (by first | rfl | (simp only [firstArgMember]; rfl)) ?_)
  refine wpAny_newObj_type ?_ (by size_fits)
  refine raise_new (X := "StopIteration") (c := c) (h0 := s.heap.update it _) (fun b o hb => Heap.get?_push_of_some _ (Heap.get?_push_of_some _ hb)) ?_ ⟨_, _, Heap.get?_push_size _ rfl, rfl, rfl, ?_, ?_, ?_⟩ (hit2 _ fun b o hb e => (Heap.get?_update_other _ _ (Ne.symm hb)).trans e) fun h' x => ?_
  · exact Heap.get?_none_of_le (by simp)
  · rw [Array.size_append]; simp; omega
  · rw [Array.getElem?_append_left (by simp)]; rfl
  · rw [Array.getElem?_append_left (by simp)]; rfl
  · obtain ⟨ob, vs, he, hcls, _⟩ := x.there
    refine wpAny_bind (wpAny_isInstance (T := "StopIteration") (b := true) ⟨_, he, hcls⟩ isSubtype_stop ?_)
    exact wpAny_pure (hQ _ fun b o hb e => x.keeps b o ((Heap.get?_update_other _ _ (Ne.symm hb)).trans e))
theorem next_wide_end {it : Addr} {x : Str} {t : Tok} {i : Nat} {c : Value} {Q : Option Value → Shared → Prop} (hh : Handles A s.heap c) (hit : s.heap.IsStrIter it "str_iterator" x t i) (hx : x.cps[i]? = none)
    (hit2 : ∀ h', (∀ b o, b ≠ it → s.heap.get? b = some o → h'.get? b = some o) → Handles A h' c) (hQ : ∀ h', Heap.ExtBut it s.heap h' → Q none { s with heap := h' }) : wpAny (model prog w) A (pyNext (.ref it)) Q E s := by
  obtain ⟨o, ho, hc, hd⟩ := id hit
  unfold pyNext
  refine wpAny_bind (wpAny_attempt (wpAny_callSpecial?_slot (name := Str.ofString "__next__") hit.typeIs F.slot_str_iterator_next
    (wpAny_call_entry F.slot_str_iterator_next hit.typeIs F.entry_str_iterator_next ?_ (F.args_str_iterator_next_1 _))))
  show wpAny _ _ (field (.ref it) 0 >>= _) _ _ s
  refine wpAny_bind (wpAny_field ho hd (x := .str x t) rfl ?_)
  show wpAny _ _ (field (.ref it) 1 >>= _) _ _ s
  refine wpAny_bind (wpAny_field ho hd (x := .int i 0) rfl ?_)
  simp only [Int.toNat_natCast, hx]
  refine wpAny_bind (wpAny_rule (wpAny_bind (wpAny_setField ho hd (by simp) (wpAny_bind (wpAny_letGo ?_)))))
  show wpAny _ _ (newExc (.type "StopIteration") [] >>= _) _ _ _
  refine wpAny_bind ?_
  simp only [newExc, newTuple]
  refine wpAny_bind (wpAny_newObj_type ?_ (by size_fits))
  refine wpAny_bind (m := firstArgMember _ _) (wpAny_of_eq (a := Value.none) (by first | rfl | (simp only [firstArgMember]; rfl)) ?_)
  refine wpAny_newObj_type ?_ (by size_fits)
  refine raise_new (X := "StopIteration") (c := c) (h0 := s.heap.update it _) (fun b o hb => Heap.get?_push_of_some _ (Heap.get?_push_of_some _ hb)) ?_ ⟨_, _, Heap.get?_push_size _ rfl, rfl, rfl, ?_, ?_, ?_⟩ (hit2 _ fun b o hb e => (Heap.get?_update_other _ _ (Ne.symm hb)).trans e) fun h' x => ?_
  · exact Heap.get?_none_of_le (by simp)
  · rw [Array.size_append]; simp; omega
  · rw [Array.getElem?_append_left (by simp)]; rfl
  · rw [Array.getElem?_append_left (by simp)]; rfl
  · obtain ⟨ob, vs, he, hcls, _⟩ := x.there
    refine wpAny_bind (wpAny_isInstance (T := "StopIteration") (b := true) ⟨_, he, hcls⟩ isSubtype_stop ?_)
    exact wpAny_pure (hQ _ fun b o hb e => x.keeps b o ((Heap.get?_update_other _ _ (Ne.symm hb)).trans e))
theorem walks_ascii {h0 : Heap} {I : Addr} {x : Str} {t : Tok} {c : Value} {xs : List Addr} (its : Array Value) (hI : I ∉ xs) (hxs : ∀ h', (∀ b ∈ xs, ∀ o, h0.get? b = some o → h'.get? b = some o) → Handles A h' c) :
    Walks prog w A I (I :: xs) [I] (its.size + x.cps.size) (fun j v => if j < its.size then its[j]? = some v else SignAt x (j - its.size) v)
      (fun i h => its.size ≤ i ∧ h.IsStrIter I "str_ascii_iterator" x t (i - its.size) ∧ ∀ b ∈ xs, ∀ o, h0.get? b = some o → h.get? b = some o) where
  sub := fun b hb => by rw [List.mem_singleton.mp hb]; exact List.mem_cons_self
  frame := fun i h h' st hk => ⟨st.1, (let ⟨o, ho, r⟩ := st.2.1; ⟨o, hk I List.mem_cons_self o ho, r⟩), fun b hb o e => hk b (List.mem_cons_of_mem _ hb) o (st.2.2 b hb o e)⟩
  item := fun i s Q E hi st hQ => by
    have hlt : i - its.size < x.cps.size := by have := st.1; omega
    refine wpAny_pyNext_ascii_item st.2.1 (c := x.cps[i - its.size]) (by simp [hlt]) fun h' hit' hs' => ?_
    refine hQ _ h' (s.toks + 1) ?_ ⟨by have := st.1; omega, ?_, fun b hb o e => hs'.extBut b o (fun q => hI (q ▸ hb)) (st.2.2 b hb o e)⟩ fun b o hb e => hs'.extBut b o (fun h => hb (by simp [h])) e
    · rw [if_neg (by have := st.1; omega)]
      exact ⟨_, _, by simp [hlt], rfl⟩
    · rw [show i + 1 - its.size = i - its.size + 1 by have := st.1; omega]
      exact hit'
  done := fun s Q E st hQ => by
    have hx : x.cps[its.size + x.cps.size - its.size]? = none := by simp
    exact next_ascii_end (hxs _ st.2.2) st.2.1 hx (fun h' hk => hxs h' fun b hb o e => hk b o (fun q => hI (q ▸ hb)) (st.2.2 b hb o e)) fun h' he' => hQ h' s.toks fun b o hb e => he' b o (fun h => hb (by simp [h])) e
  self := fun _ _ _ _ st hQ => wpAny_pyIter_striter_ascii st.2.1 hQ
theorem walks_wide {h0 : Heap} {I : Addr} {x : Str} {t : Tok} {c : Value} {xs : List Addr} (its : Array Value) (hI : I ∉ xs) (hxs : ∀ h', (∀ b ∈ xs, ∀ o, h0.get? b = some o → h'.get? b = some o) → Handles A h' c) :
    Walks prog w A I (I :: xs) [I] (its.size + x.cps.size) (fun j v => if j < its.size then its[j]? = some v else SignAt x (j - its.size) v)
      (fun i h => its.size ≤ i ∧ h.IsStrIter I "str_iterator" x t (i - its.size) ∧ ∀ b ∈ xs, ∀ o, h0.get? b = some o → h.get? b = some o) where
  sub := fun b hb => by rw [List.mem_singleton.mp hb]; exact List.mem_cons_self
  frame := fun i h h' st hk => ⟨st.1, (let ⟨o, ho, r⟩ := st.2.1; ⟨o, hk I List.mem_cons_self o ho, r⟩), fun b hb o e => hk b (List.mem_cons_of_mem _ hb) o (st.2.2 b hb o e)⟩
  item := fun i s Q E hi st hQ => by
    have hlt : i - its.size < x.cps.size := by have := st.1; omega
    refine wpAny_pyNext_wide_item st.2.1 (c := x.cps[i - its.size]) (by simp [hlt]) fun h' hit' hs' => ?_
    refine hQ _ h' (s.toks + 1) ?_ ⟨by have := st.1; omega, ?_, fun b hb o e => hs'.extBut b o (fun q => hI (q ▸ hb)) (st.2.2 b hb o e)⟩ fun b o hb e => hs'.extBut b o (fun h => hb (by simp [h])) e
    · rw [if_neg (by have := st.1; omega)]
      exact ⟨_, _, by simp [hlt], rfl⟩
    · rw [show i + 1 - its.size = i - its.size + 1 by have := st.1; omega]
      exact hit'
  done := fun s Q E st hQ => by
    have hx : x.cps[its.size + x.cps.size - its.size]? = none := by simp
    exact next_wide_end (hxs _ st.2.2) st.2.1 hx (fun h' hk => hxs h' fun b hb o e => hk b o (fun q => hI (q ▸ hb)) (st.2.2 b hb o e)) fun h' he' => hQ h' s.toks fun b o hb e => he' b o (fun h => hb (by simp [h])) e
  self := fun _ _ _ _ st hQ => wpAny_pyIter_striter_wide st.2.1 hQ

theorem chars_after {its acc : Array Value} {x : Str} (h : ItemsOf (fun j v => if j < its.size then its[j]? = some v else SignAt x (j - its.size) v) acc (its.size + x.cps.size)) :
    ∃ vs : List Value, acc = its ++ vs.toArray ∧ vs.length = x.cps.size ∧ ∀ (j : Nat) v, vs[j]? = some v → SignAt x j v := by
  obtain ⟨h1, h2⟩ := h
  refine ⟨acc.toList.drop its.size, ?_, by simp [h1], fun j v hv => ?_⟩
  · apply Array.ext_getElem?
    intro j
    rw [Array.getElem?_append]
    by_cases hj : j < its.size
    · rw [if_pos hj]
      have hlt : j < acc.size := by omega
      have ht : its[j]? = some acc[j] := by
        have := h2 j acc[j] (by simp [hlt])
        simpa [hj] using this
      rw [ht]; simp [hlt]
    · rw [if_neg hj]
      simp [List.getElem?_drop, show its.size + (j - its.size) = j by omega]
  · rw [List.getElem?_drop] at hv
    have := h2 (its.size + j) v (by simpa using hv)
    simpa using this

theorem pyIter_strH {x : Str} {t : Tok} {c : Value} {xs : List Addr} {Q : Value → Shared → Prop} (its : Array Value) (hex : ∀ b ∈ xs, ∃ o, s.heap.get? b = some o) (hxs : ∀ h', (∀ b ∈ xs, ∀ o, s.heap.get? b = some o → h'.get? b = some o) → Handles A h' c)
    (hQ : ∀ (o : Obj) (St : Nat → Heap → Prop), Walks prog w A s.heap.objs.size (s.heap.objs.size :: xs) [s.heap.objs.size] (its.size + x.cps.size) (fun j v => if j < its.size then its[j]? = some v else SignAt x (j - its.size) v) St → St its.size (s.heap.push o) →
      Q (.ref s.heap.objs.size) { s with heap := s.heap.push o }) : wpAny (model prog w) A (pyIter (.str x t)) Q E s := by
  have hIx : s.heap.objs.size ∉ xs := fun hm => by
    obtain ⟨o, ho⟩ := hex _ hm
    exact Nat.lt_irrefl _ (Heap.lt_size ho)
  have hxs' : ∀ o, ∀ h', (∀ b ∈ xs, ∀ o', (s.heap.push o).get? b = some o' → h'.get? b = some o') → Handles A h' c := fun o h' hk => hxs h' fun b hb o' e => hk b hb o' (Heap.get?_push_of_some _ e)
  cases ha : x.cps.all (· < 128)
  · exact wpAny_pyIter_wide ha (hQ { cls := .type "str_iterator", data := .fields #[.str x t, .int 0 0] } _ (walks_wide (h0 := s.heap.push { cls := .type "str_iterator", data := .fields #[.str x t, .int 0 0] }) its hIx (hxs' _)) ⟨Nat.le_refl _, ⟨_, Heap.get?_push_size _ rfl, rfl, by rw [Nat.sub_self]; rfl⟩, fun _ _ _ e => e⟩)
  · exact wpAny_pyIter_ascii ha (hQ { cls := .type "str_ascii_iterator", data := .fields #[.str x t, .int 0 0] } _ (walks_ascii (h0 := s.heap.push { cls := .type "str_ascii_iterator", data := .fields #[.str x t, .int 0 0] }) its hIx (hxs' _)) ⟨Nat.le_refl _, ⟨_, Heap.get?_push_size _ rfl, rfl, by rw [Nat.sub_self]; rfl⟩, fun _ _ _ e => e⟩)
def extStr (V : Addr) (its : Array Value) (n : Nat) (x : Str) : PySem.Spec := fun A R s => ∃ (xs : List Addr) (c : Value), s.heap.get? V = some (W.listOf its n) ∧ (∀ h', (∀ b ∈ xs, ∀ o, s.heap.get? b = some o → h'.get? b = some o) → Handles A h' c) ∧ V ∉ xs ∧
  (∀ b ∈ xs, ∃ o, s.heap.get? b = some o) ∧ its.size + x.cps.size ≤ 1000 ∧ ∀ (h' : Heap) (tk : Nat) (vs : List Value) (n' : Nat), (∀ b o, b ≠ V → s.heap.get? b = some o → h'.get? b = some o) → h'.get? V = some (W.listOf (its ++ vs.toArray) n') → vs.length = x.cps.size →
    (∀ (j : Nat) v, vs[j]? = some v → SignAt x j v) → R (.ok (.ret .none)) { s with heap := h', toks := tk }
theorem meets_extStr (V : Addr) (its : Array Value) (n : Nat) (x : Str) (t : Tok) : Meets (Builtin.«list.extend» ⟨[.ref V, .str x t], []⟩) (extStr V its n x) := by
  intro prog w A R s ⟨xs, c, hS, hxs, hVxs, hex, hsz, hR⟩
  show wpAny _ _ (Builtin.List.listExtendWith (.ref V) (.str x t) .none) _ _ s
  have hSI : V ≠ s.heap.objs.size := Nat.ne_of_lt (Heap.lt_size hS)
  have hIx : s.heap.objs.size ∉ xs := fun hm => by
    obtain ⟨o, ho⟩ := hex _ hm
    exact Nat.lt_irrefl _ (Heap.lt_size ho)
  have hSf : V ∉ s.heap.objs.size :: xs := by simp [hSI, hVxs]
  unfold Builtin.List.listExtendWith
  refine wpAny_bind (wpAny_typeOf (T := "str") (v := .str x t) rfl ?_)
  have h1 : Builtin.List.listSameRef (.ref V) (.str x t) = false := rfl
  have h2 : (Value.type "str" == Value.type "list") = false := by decide
  have h3 : (Value.type "str" == Value.type "tuple") = false := by decide
  simp only [h1, h2, h3, Bool.or_false, Bool.false_eq_true, if_false]
  refine wpAny_bind (pyIter_strH (A := A.in1) its hex hxs fun o St W hst => ?_)
  refine wpAny_bind (wpAny_holding ?_)
  unfold Builtin.List.listLengthHint
  refine wpAny_bind (wpAny_specialOf (T := "str") (v := .str x t) rfl F.str_len ?_)
  wp_delta
  refine wpAny_bind (wpAny_isInstance (T := "str") (v := .str x t) (b := true) rfl (by rw [isSubtype_type]; kernel_rfl) ?_)
  show wpAny _ _ (typeOf (Value.str x t) >>= _) _ _ _
  refine wpAny_bind (wpAny_typeOf (T := "str") (v := .str x t) rfl ?_)
  refine wpAny_pure ?_
  rw [if_neg (by decide)]
  refine wpAny_pure ⟨plainId_quiet F.plain_extend_loop _, codeAny_extend_loopS W.toS (by rw [sizeLine_eq]; omega) V hSf .none x.cps.size its.size _ its n (by omega) (by omega) hst (Heap.get?_push_of_some _ hS) ⟨rfl, fun j v hv => ?_⟩ fun s' acc' c' hm hS' hacc => ?_⟩
  · have : j < its.size := by
      rcases Nat.lt_or_ge j its.size with h | h
      · exact h
      · rw [Array.getElem?_eq_none h] at hv; cases hv
    show if j < its.size then _ else _
    rw [if_pos this]; exact hv
  · rw [Moved.eq_with hm]
    obtain ⟨vs, rfl, hl, hv⟩ := chars_after hacc
    refine hR s'.heap s'.toks vs c' (fun b ob hb e => hm.heap b ob (fun hmem => ?_) (Heap.get?_push_of_some _ e)) hS' hl hv
    rcases List.mem_cons.mp hmem with e' | hmem
    · exact hb e'
    · exact absurd (Heap.lt_size e) (by rw [List.mem_singleton.mp hmem]; exact Nat.lt_irrefl _)
end
end
section
open PySem PySem.W PyProof.Rows PyProof.V PySem.Spec PySem.Calls
/-- a rest of a sequence: a list, a tuple or a text -/
def RestAt (IsFace : Int → Value → Prop) (rs : List Int) (v : Value) (h : Heap) : Prop :=
  (∃ l vs n, v = .ref l ∧ h.get? l = some (W.listOf (List.toArray vs) n) ∧ Paired IsFace rs vs) ∨
  (∃ l vs n, v = .ref l ∧ h.get? l = some { cls := .type "tuple", dict := none, data := .seq (List.toArray vs) n, slots := #[] } ∧ Paired IsFace rs vs) ∨
  ∃ x t, v = .str x t ∧ x.cps.size = rs.length ∧ ∀ vs : List Value, vs.length = x.cps.size → (∀ (j : Nat) u, vs[j]? = some u → SignAt x j u) → Paired IsFace rs vs
section
variable {prog : Program} {w : World} {A : Around} {E : Value → Shared → Prop} {s : Shared}
theorem extend_rest {base : Heap} {L D : Addr} {m : Str → Option Value} {pre post : List (Addr × Obj)} {vs : List Value} {n : Nat} {IsFace : Int → Value → Prop} {rs : List Int} {v c : Value} {xs : List Addr} {Q : Value → Shared → Prop}
    (F : Fr base L s.heap m) (N : News base L s.heap (pre ++ (D, W.listOf vs.toArray n) :: post)) (h1 : ∀ p ∈ pre, p.1 ≠ D) (h2 : ∀ p ∈ post, p.1 ≠ D)
    (hr : RestAt IsFace rs v s.heap) (hH : ∀ h', (∀ b ∈ xs, ∀ o, s.heap.get? b = some o → h'.get? b = some o) → Handles A h' c) (hxD : D ∉ xs) (hex : ∀ b ∈ xs, ∃ o, s.heap.get? b = some o) (hz : vs.length + rs.length ≤ 1000)
    (h : ∀ h' tk ws n', Fr base L h' m → News base L h' (pre ++ (D, W.listOf (vs ++ ws).toArray n') :: post) → Paired IsFace rs ws → Q .none { s with heap := h', toks := tk }) :
    wpAny (model prog w) A (call (.builtin "list.extend") [.ref D, v]) Q E s := by
  have z := N (D, W.listOf vs.toArray n) (List.mem_append_right _ (.head _))
  rcases hr with ⟨l, ws, k, rfl, hl, hp⟩ | ⟨l, ws, k, rfl, hl, hp⟩ | ⟨x, t, rfl, hx, hp⟩
  · have hlen := hp.length
    refine extend_led F N h1 h2 hl (by simp only [List.size_toArray]; omega) fun h' n' F' N' => ?_
    rw [List.append_toArray] at N'
    exact h h' s.toks ws n' F' N' hp
  · have hlen := hp.length
    obtain ⟨n', hn'⟩ := mapSeq_listOf (fun x => x ++ ws.toArray) vs.toArray n
    refine call_meets PySem.F.slot_list_extend ⟨_, z.1, rfl⟩ PySem.F.entry_list_extend (PySem.F.args_list_extend_2 _ _) (PySem.AutoSeq1.list_extend_list_tuple_0 D vs.toArray n l ws.toArray k ?_ ?_ ?_) ⟨z.1, hl, ?_⟩
    · simp only [Builtin.List.listTooLong, Bool.and_eq_true, decide_eq_true_eq, List.size_toArray]; rw [sizeLine_eq]; omega
    · rw [sizeLine_eq, List.size_toArray]; omega
    · rw [sizeLine_eq, List.size_toArray, List.size_toArray]; omega
    · have hs : Heap.SameBut D s.heap (s.heap.update D (Obj.mapSeq fun x => x ++ ws.toArray)) := Heap.SameBut.update ..
      refine h _ s.toks ws n' (F.change hs z.2.1 z.2.2) (N.setIn h1 h2 hs ?_) hp
      rw [List.append_toArray] at hn'
      rw [← hn']
      exact Heap.get?_update_self _ z.1 (by rw [hn']; rfl)
  · refine call_meets PySem.F.slot_list_extend ⟨_, z.1, rfl⟩ PySem.F.entry_list_extend (PySem.F.args_list_extend_2 _ _) (meets_extStr D vs.toArray n x t) ⟨xs, c, z.1, hH, hxD, hex, by rw [List.size_toArray]; omega, fun h' tk ws n' hk hg hl hs => ?_⟩
    rw [List.append_toArray] at hg
    refine h h' tk ws n' ⟨?_, fun b o e => ?_, F.above⟩ (fun p hq => ?_) (hp ws hl hs)
    · exact F.ns.at' fun o e => hk _ o (Ne.symm z.2.1) e
    · refine hk b o (fun q => ?_) (F.keep b o e)
      rw [q] at e
      have := z.2.2
      rw [e] at this; cases this
    · rcases List.mem_append.mp hq with hq | hq
      · have := N p (List.mem_append_left _ hq)
        exact ⟨hk _ _ (h1 p hq) this.1, this.2⟩
      · rcases List.mem_cons.mp hq with rfl | hq
        · exact ⟨hg, z.2⟩
        · have := N p (List.mem_append_right _ (.tail _ hq))
          exact ⟨hk _ _ (h2 p hq) this.1, this.2⟩
end
end
section
open PySem PySem.W PyProof.Rows PyProof.V PySem.Spec PySem.Calls
theorem ints_paired {G : Int → Value → Prop} : ∀ {vs : List Value} {ns : List Int} {ys : List Value}, IntsAre vs ns → Paired (fun v y => ∃ k t, v = .int k t ∧ G k y) vs ys → Paired G ns ys
  | _, _, _, .nil, .nil => .nil
  | _, _, _, .cons n t h, .cons ⟨k, t', e, hg⟩ r => by cases e; exact .cons hg (ints_paired h r)
section
variable {prog : Program} {w : World} {A : Around} {E : Value → Shared → Prop} {env : Env}
/-- a comprehension over a list of ints -/
theorem ListComp_ints {Q : Value → Shared → Prop} {elt iter : Expr} {x : Str} {px : Pos} {scope : Scope} {cl : List (Str × Addr)} {pos : Pos} {s : Shared} {base : Heap} {m : Str → Option Value} {G : Int → Value → Prop}
    (F₀u : Fr base env.locals s.heap m) (hh : A.handled = none) (hclos : closureFor scope env = pure cl) (hcell : ∀ y ∈ scope.names, y.2 ≠ .cell) (hkind : scope.kind = .function)
    (hnames : ∀ y ∈ scope.names, y.2 = .local → scope.names.lookup y.1 = some .local) (hx : scope.names.lookup x = some .local)
    (h : wpAny (model prog w) A (eval iter env) (fun xv s₁ => Halt (∃ (l : Addr) (vs : List Value) (ns : List Int) (news : List (Addr × Obj)), xv = .ref l ∧ s₁.heap.IsList l vs.toArray ∧ IntsAre vs ns ∧ ns.length ≤ 1000 ∧
      Fr base env.locals s₁.heap m ∧ News base env.locals s₁.heap news ∧
      (∀ C k t s₃ m₃ E', k ∈ ns → Fr base C s₃.heap m₃ → m₃ x = some (.int k t) → News base C s₃.heap news → wpAny (model prog w) A (eval elt (compEnvC scope cl C env)) (fun y s₄ => G k y ∧ Keeps s₃ s₄) E' s₃) ∧
      (∀ D h' tk ys n, Fr base env.locals h' m → News base env.locals h' ((D, W.listOf (List.toArray ys) n) :: news) → (∀ p ∈ news, p.1 ≠ D) → Paired G ns ys → Q (.ref D) { s₁ with heap := h', toks := tk }))) E s)
    (hs : ∀ x, foldedSetIterable iter env x = pure x) :
    wpAny (model prog w) A (eval (.ListComp elt [⟨.Name x px, iter, [], 0⟩] scope pos) env) Q E s := by
  refine wpAny_ListComp_free (fun _ => true) (fun v y => ∃ k t, v = .int k t ∧ G k y) hclos hcell hkind hnames hx (wpAny_mono h (fun xv s₁ h₁ => ?_) fun _ _ e => e) hs
  obtain ⟨l, vs, ns, news, rfl, hl, hi, hlen, F, N, helt, hQ⟩ := h₁
  refine wpAny_pyIter_list hl ?_
  obtain ⟨ol, hol, _⟩ := id hl
  have hlt : @LT.lt Nat _ l s₁.heap.objs.size := Heap.lt_size hol
  have hne : l ≠ s₁.heap.objs.size := Nat.ne_of_lt hlt
  have up : ∀ b o, s₁.heap.get? b = some o → (s₁.heap.push { cls := .type "list_iterator", data := .fields #[.ref l, .int 0 0] }).get? b = some o := fun b o e => Heap.get?_push_of_some _ e
  have szp : (s₁.heap.push { cls := .type "list_iterator", data := .fields #[.ref l, .int 0 0] }).objs.size = s₁.heap.objs.size + 1 := Heap.size_push ..
  refine ⟨_, _, _, _, _, _, rfl, Walks.list (prog := prog) (w := w) hh s₁.heap.objs.size l hne vs.toArray, ?_, ⟨⟨_, Heap.get?_push_size _ rfl, rfl, rfl⟩, hl.at fun o e => up _ o e⟩, ?_, ?_, ?_⟩
  · rw [List.size_toArray, hi.length, sizeLine_eq]; omega
  · intro b hb
    rw [Heap.size_push]
    simp only [List.mem_cons, List.not_mem_nil, or_false] at hb
    rcases hb with rfl | rfl
    · exact Nat.lt_succ_self _
    · exact Nat.lt_succ_of_lt hlt
  · constructor
    · intro C' i v s₃ m₃ E' hC hv hns hm hk htk
      exact wpAny_pure ⟨rfl, s₃.heap, _, rfl, fun _ _ e => e⟩
    · intro C' i v s₃ m₃ E' hC hv _ hns hm hk htk
      have hsz : @LT.lt Nat _ s₁.heap.objs.size C' := Nat.lt_of_lt_of_le (by rw [szp]; exact Nat.lt_succ_self _) hC
      have k3 : ∀ b o, s₁.heap.get? b = some o → s₃.heap.get? b = some o := fun b o e => hk b o (by simp only [List.mem_singleton]; exact Nat.ne_of_lt (Heap.lt_size e)) (up b o e)
      have hv' : vs[i]? = some v := by simpa using hv
      obtain ⟨k, t, rfl, hkm⟩ : ∃ k t, v = .int k t ∧ k ∈ ns := by
        have hj : i < ns.length := by rw [← hi.length]; exact (List.getElem?_eq_some_iff.mp hv').1
        obtain ⟨t, ht⟩ := hi.get i ns[i] (List.getElem?_eq_getElem hj)
        rw [hv'] at ht
        exact ⟨ns[i], t, Option.some.inj ht, List.getElem_mem hj⟩
      refine wpAny_mono (helt C' k t s₃ m₃ E' hkm ⟨hns, fun b o e => k3 b o (F.keep b o e), Nat.le_trans F.above (Nat.le_trans (Nat.le_of_lt F.ns.lt) (Nat.le_of_lt hsz))⟩ hm fun p hp => ⟨k3 _ _ (N p hp).1, ?_, (N p hp).2.2⟩) (fun y s₄ hy => ⟨⟨k, t, rfl, hy.1⟩, hy.2⟩) fun _ _ e => e
      exact Nat.ne_of_lt (Nat.lt_trans (Heap.lt_size (N p hp).1) hsz)
  · intro D h' tk ys vs' hD hl' hpl hvl hvs hpair hkeep
    obtain ⟨n, hget⟩ := hpl
    have k2 : ∀ b o, s₁.heap.get? b = some o → h'.get? b = some o := fun b o e => hkeep b o (by simp only [List.mem_singleton]; exact Nat.ne_of_lt (Heap.lt_size e)) (up b o e)
    have hDn : s₁.heap.get? D = none := TT.none_of up hD
    have evs : vs' = vs := by
      apply List.ext_getElem?
      intro j
      by_cases hj : j < vs'.length
      · have := hvs j vs'[j] (List.getElem?_eq_getElem hj)
        rw [List.getElem?_eq_getElem hj]
        simpa using this.symm
      · rw [List.getElem?_eq_none (by omega), List.getElem?_eq_none (by rw [hvl] at hj; simpa using hj)]
    subst evs
    rw [List.filter_eq_self.mpr (fun _ _ => rfl)] at hpair
    have hys : ys = ys.toList.toArray := by simp
    rw [hys] at hget
    refine hQ D h' tk ys.toList n (F.keeps k2) (fun q hq => ?_) (fun q hq e => ?_) (ints_paired hi hpair)
    · rcases List.mem_cons.mp hq with rfl | hq
      · refine ⟨hget, ?_, TT.none_of F.keep hDn⟩
        intro e
        obtain ⟨oL, esL, epL, hL, r⟩ := F.ns
        dsimp only at e
        rw [e, hL] at hDn; cases hDn
      · obtain ⟨x1, x2, x3⟩ := N q hq
        exact ⟨k2 _ _ x1, x2, x3⟩
    · have := (N q hq).1
      rw [e, hDn] at this; cases this

/-- a list made over a range -/
theorem Assign_range {Q : Flow → Shared → Prop} {elt iter : Expr} {x y : Str} {px py : Pos} {scope : Scope} {cl : List (Str × Addr)} {pos spos : Pos} {s : Shared} {base : Heap} {m : Str → Option Value} {G : Value → Prop}
    (F₀u : Fr base env.locals s.heap m) (hh : A.handled = none)
    (hsw : swapsWith (.ListComp elt [⟨.Name x px, iter, [], 0⟩] scope pos) (some (.Name y py)) spos.line env = pure true)
    (hclos : closureFor scope env = pure cl) (hcell : ∀ z ∈ scope.names, z.2 ≠ .cell) (hkind : scope.kind = .function)
    (hnames : ∀ z ∈ scope.names, z.2 = .local → scope.names.lookup z.1 = some .local) (hx : scope.names.lookup x = some .local)
    (hy : env.kindOf y = some .local) (hp : (env.scope.kind == .class || (env.scope.kind == .module && env.locals != env.globals)) = false)
    (h : wpAny (model prog w) A (eval iter env) (fun xv s₁ => Halt (∃ (r : Addr) (b : Int) (t u v : Tok) (news : List (Addr × Obj)), xv = .ref r ∧ IsRange s₁.heap r 0 b 1 t u v ∧ 0 ≤ b ∧ b ≤ 1000 ∧
      Fr base env.locals s₁.heap m ∧ News base env.locals s₁.heap news ∧
      (∀ C (i : Nat) t s₃ m₃ E', Fr base C s₃.heap m₃ → m₃ x = some (.int (i : Int) t) → News base C s₃.heap news → wpAny (model prog w) A (eval elt (compEnvC scope cl C env)) (fun y s₄ => G y ∧ Keeps s₃ s₄) E' s₃) ∧
      (∀ D h' tk ys n, Fr base env.locals h' (fun z => if z = y then some (.ref D) else m z) → News base env.locals h' ((D, W.listOf (List.toArray ys) n) :: news) → (∀ p ∈ news, p.1 ≠ D) → ys.length = b.toNat → (∀ y ∈ ys, G y) → Q .next { s₁ with heap := h', toks := tk }))) E s)
    (hs : ∀ x, foldedSetIterable iter env x = pure x) :
    wpAny (model prog w) A (exec (.Assign [.Name y py] (.ListComp elt [⟨.Name x px, iter, [], 0⟩] scope pos) spos) env) Q E s := by
  refine wpAny_Assign_ListComp_free (fun _ => true) (fun _ y => G y) hsw hclos hcell hkind hnames hx hy hp (wpAny_mono h (fun xv s₁ h₁ => ?_) fun _ _ e => e) hs
  obtain ⟨r, b, t, u, v, news, rfl, hr, hb0, hb1, F, N, helt, hQ⟩ := h₁
  have hsz : Builtin.Range.rangeSize 0 b 1 = ((b.toNat : Nat) : Int) := by
    unfold Builtin.Range.rangeSize
    simp only [gt_iff_lt, Int.zero_lt_one, if_true, Int.ediv_one]
    split <;> omega
  have hsm : Builtin.Range.small 0 b 1 = true := by
    unfold Builtin.Range.small
    rw [hsz]
    simp only [Builtin.Range.rangeFitsLong, Bool.and_eq_true, Bool.or_eq_true, decide_eq_true_eq, gt_iff_lt, Int.zero_lt_one, if_true]
    omega
  refine wpAny_pyIter_range hr hsm ?_
  have up : ∀ b' o', s₁.heap.get? b' = some o' → (s₁.heap.push { cls := .type "range_iterator", data := .fields #[rawInt 0, rawInt (Builtin.Range.rangeSize 0 b 1), rawInt 1] }).get? b' = some o' := fun b' o' e => Heap.get?_push_of_some _ e
  have szp : (s₁.heap.push { cls := .type "range_iterator", data := .fields #[rawInt 0, rawInt (Builtin.Range.rangeSize 0 b 1), rawInt 1] }).objs.size = s₁.heap.objs.size + 1 := Heap.size_push ..
  have hLs := F.ns.lt
  refine ⟨_, _, _, _, _, _, m, rfl, Walks.range (prog := prog) (w := w) hh s₁.heap.objs.size 0 1 b.toNat, ?_, ?_, ?_, ?_, F.ns.at' fun o e => up _ o e, ?_, ?_⟩
  · rw [sizeLine_eq]; omega
  · show IsRangeIter _ _ _ _ _
    rw [hsz]
    simpa using Heap.get?_push_size _ rfl
  · intro b' hb
    rw [szp, List.mem_singleton.mp hb]
    exact Nat.lt_succ_self _
  · simp only [List.mem_singleton]
    exact Nat.ne_of_lt hLs
  · constructor
    · intro C' i v s₃ m₃ E' hC hv hns hm hk htk
      exact wpAny_pure ⟨rfl, s₃.heap, _, rfl, fun _ _ e => e⟩
    · rintro C' i v s₃ m₃ E' hC ⟨tt, rfl⟩ _ hns hm hk htk
      have hsz' : @LT.lt Nat _ s₁.heap.objs.size C' := Nat.lt_of_lt_of_le (by rw [szp]; exact Nat.lt_succ_self _) hC
      have k3 : ∀ b o, s₁.heap.get? b = some o → s₃.heap.get? b = some o := fun b o e => hk b o (by simp only [List.mem_singleton]; exact Nat.ne_of_lt (Heap.lt_size e)) (up b o e)
      have hm' : m₃ x = some (.int (i : Int) tt) := by rw [hm, Int.mul_one, Int.zero_add]
      exact helt C' i tt s₃ m₃ E' ⟨hns, fun b o e => k3 b o (F.keep b o e), Nat.le_trans F.above (Nat.le_trans (Nat.le_of_lt F.ns.lt) (Nat.le_of_lt hsz'))⟩ hm' fun p hp => ⟨k3 _ _ (N p hp).1, Nat.ne_of_lt (Nat.lt_trans (Heap.lt_size (N p hp).1) hsz'), (N p hp).2.2⟩
  · intro D h' tk ys vs' hD hl' hpl hvl hvs hpair hns hkeep
    obtain ⟨n, hget⟩ := hpl
    have k2 : ∀ b o, b ≠ env.locals → s₁.heap.get? b = some o → h'.get? b = some o := fun b o hb e => hkeep b o hb (by simp only [List.mem_singleton]; exact Nat.ne_of_lt (Heap.lt_size e)) (up b o e)
    have hDn : s₁.heap.get? D = none := TT.none_of up hD
    have hLb : ∀ b o, base.get? b = some o → b ≠ env.locals := fun b o e => Nat.ne_of_lt (Nat.lt_of_lt_of_le (Heap.lt_size e) F.above)
    have hys : ys = ys.toList.toArray := by simp
    rw [hys] at hget
    rw [List.filter_eq_self.mpr (fun _ _ => rfl)] at hpair
    refine hQ D h' tk ys.toList n ⟨hns, fun b o e => k2 b o (hLb b o e) (F.keep b o e), F.above⟩ (fun q hq => ?_) (fun q hq e => ?_) (by rw [← hpair.length, hvl]) fun y hy => (Paired.right hpair y hy).elim fun _ h => h
    · rcases List.mem_cons.mp hq with rfl | hq
      · refine ⟨hget, ?_, TT.none_of F.keep hDn⟩
        intro e
        obtain ⟨oL, esL, epL, hL, r⟩ := F.ns
        dsimp only at e
        rw [e, hL] at hDn; cases hDn
      · obtain ⟨x1, x2, x3⟩ := N q hq
        exact ⟨k2 _ _ x2 x1, x2, x3⟩
    · have := (N q hq).1
      rw [e, hDn] at this; cases this
end
end
section
open PySem PySem.W PyProof.Rows PyProof.V PySem.Spec PySem.Calls
section
local macro_rules | `(tactic| walk_at "exec For Name Name cons nil") => `(tactic| refine halt ?_)
local macro_rules | `(tactic| walk_at "subscriptTail Name UnaryOp ref int") => `(tactic| refine halt ?_)
local macro_rules | `(tactic| walk_at "subscriptTail Subscript Constant ref int") => `(tactic| refine halt ?_)
local macro_rules | `(tactic| walk_at "getItem ref int") => `(tactic| refine halt ?_)
local macro_rules | `(tactic| walk_at "setItem ref int int") => `(tactic| refine halt ?_)
local macro_rules | `(tactic| walk_at "exec For Name Call cons nil") => `(tactic| refine halt ?_)
local macro_rules | `(tactic| k_all) => `(tactic| assumption)
local macro_rules | `(tactic| k_all) => `(tactic| (refine List.forall_mem_append.mpr ⟨?_, ?_⟩ <;> k_all))
set_option maxRecDepth 100000 in
set_option maxHeartbeats 8000000 in
theorem runs_spec {w : World} {mean : ExcName → Option Value} {mg mb : Str → Option Value} {h₀ : Heap} {e1 e2 : Env} {L l : Addr} {m : Str → Option Value} {news : List (Addr × Obj)} {vs : List Value} {ns : List Int}
    {s : Shared} {Q E : Value → Shared → Prop} (F : Fr h₀ L s.heap m) (X : (hd.heap_39 w.params).In h₀) (N : News h₀ L s.heap news) (T : TopH mean mg mb h₀)
    (hl : s.heap.IsList l vs.toArray) (hi : IntsAre vs ns) (hlen : ns.length ≤ 24)
    (ret : ∀ R n cells h' tk', Fr h₀ L h' m → News h₀ L h' (((R, listOf (cells.map fun p => Value.ref p.1).toArray n) :: cells) ++ news) → CellsOf cells (runsOf ns) → Q (.ref R) { s with heap := h', toks := tk' }) :
    wpAny (model PG w) ((callerA.deeper e1).deeper e2) (call (.ref 47) [.ref l]) Q E s := by
  refine' call_own (binds := [("ranks", .ref l)]) F X T ?k6 ?k7 ?k8 ?k9 ?kB ?_ ?c5 ?c2 ?c3 ?c4
  case k6 => k_is
  case k7 => k_is
  case k8 => (simp only [depth_deeper, depth_caller]; decide)
  case k9 => exact BindsTo.of_eq rfl
  case kB => exact locs rfl
  case c5 => decide
  case c2 => exact rfl
  case c3 => exact rfl
  case c4 => exact rfl
  intro h₁ F' X' T'
  have F'' := fr_eq F' (lookup1 _ _)
  clear F'
  have N' : News s.heap s.heap.objs.size h₁ [] := News.nil
  try dsimp only
  k_steps
  rename_i R hx l1 h₂ F₂ N₂
  refine For_list (base := s.heap) (L := s.heap.objs.size) (l := l) (items := vs.toArray) (fz := []) (fun i m nl => ∃ (u : Option Value) (n : Nat) (cells : List (Addr × Obj)), m = (fun y => if y = ("rank" : Str) then u else if y = "runs" then some (.ref R) else if y = "ranks" then some (.ref l) else none)
    ∧ nl = (R, listOf (cells.map fun p => Value.ref p.1).toArray n) :: cells ∧ CellsOf cells (runsOf (ns.take i)) ∧ (R :: cells.map (·.1)).Nodup) rfl ?iter (.inl hl) F₂ (by rw [List.append_nil]; exact N₂) ?J0 ?turn ?done (fun _ => rfl) ?passes
  case J0 => exact ⟨none, 0, [], ov_self rfl, rfl, trivial, by simp⟩
  case passes => exact PassesOwn.never
  case iter => intro Q' E' hq; exact ld F₂ rfl hq
  case turn =>
    rintro I oI i v m₁ nl h tk hv hJ hnI F₃ N₃
    refine opq_for fun σ K0 hK0 => ?_
    obtain ⟨u, n, cells, rfl, rfl, hc, hnd⟩ := hJ
    obtain ⟨k, hk⟩ : ∃ k, ns[i]? = some k := by
      have h1 := (Array.getElem?_eq_some_iff.mp hv).1
      rw [List.size_toArray, hi.length] at h1
      exact ⟨_, List.getElem?_eq_getElem h1⟩
    obtain ⟨tkk, hx⟩ := hi.get i k hk
    have hv' : v = .int k tkk := by
      have : vs[i]? = some v := by simpa using hv
      rw [hx] at this; exact (Option.some.inj this).symm
    subst hv'
    simp only [List.append_nil] at N₃ hnI
    have hRI : @Ne Nat R I := hnI _ List.mem_cons_self
    have hcI : ∀ p ∈ cells, p.1 ≠ I := fun p hp => hnI p (List.mem_cons_of_mem _ hp)
    obtain ⟨hnd1, hnd2⟩ := List.nodup_cons.mp hnd
    have hcR : ∀ p ∈ cells, p.1 ≠ R := fun p hp e => hnd1 (e ▸ List.mem_map_of_mem hp)
    have hrun : runsOf (ns.take (i + 1)) = runStep (runsOf (ns.take i)) k := by
      unfold runsOf
      rw [List.take_add_one, hk, Option.toList_some, List.foldl_append]; rfl
    rcases List.eq_nil_or_concat cells with hce | ⟨c0, ⟨a, o⟩, hce⟩
    · subst hce
      simp only [List.map_nil] at N₃
      have e0 : runsOf (ns.take i) = [] := by
        match h : runsOf (ns.take i), hc with
        | [], _ => rfl
      k_steps
      rename_i tk1 l' hz l1' h' F4 N4
      refine hK0 _ _ _ ?_
      refine ⟨h', _, _, [(R, _), (l', listOf #[.int k tkk, .int 1 tk1] 0)], rfl, F4, News.sub N4 (fun p hp => ?_), ?_, some (.int k tkk), n + 1, [(l', listOf #[.int k tkk, .int 1 tk1] 0)], ov_ov _ _ _ _, rfl, ?_, ?_⟩
      · simp only [List.append_nil, List.mem_cons, List.not_mem_nil, or_false] at hp ⊢
        grind
      · intro p hp
        rcases List.mem_cons.mp hp with rfl | hp
        · exact hRI
        · rw [List.mem_singleton.mp hp]; exact Nat.ne_of_gt l1'.1
      · rw [hrun, e0]
        exact ⟨⟨_, _, OList.of _ _⟩, trivial⟩
      · simp only [List.map_cons, List.map_nil, List.nodup_cons, List.mem_cons, List.not_mem_nil, or_false, not_false_eq_true, List.nodup_nil, and_true]
        exact Nat.ne_of_lt l1'.2
    · rw [List.concat_eq_append] at hce
      subst hce
      rw [List.map_append, List.map_cons, List.map_nil] at N₃
      have hnda : ∀ p ∈ c0, p.1 ≠ a := by
        rw [List.map_append, List.nodup_append] at hnd2
        exact fun p hp => hnd2.2.2 p.1 (List.mem_map_of_mem hp) a (by simp)
      obtain ⟨rs, q, c, ers, hcs, t1, t2, ho⟩ := cells_snoc hc
      have hc0 : c0.length ≤ 24 := by
        have h1 := cells_len hcs
        have h2 := runsOf_length (ns.take i)
        rw [ers] at h2
        simp only [List.length_append, List.length_cons, List.length_nil, List.length_take] at h2
        omega
      obtain ⟨hc0I, haI⟩ := List.forall_mem_append.mp hcI
      obtain ⟨hc0R, haR⟩ := List.forall_mem_append.mp hcR
      have haI' : @Ne Nat a I := haI (a, o) (by simp)
      have haR' : @Ne Nat a R := haR (a, o) (by simp)
      have hfit : (((c0.map fun p => Value.ref p.1) ++ [Value.ref a]).toArray.size : Int) < 2 ^ 63 := by
        simp only [List.size_toArray, List.length_append, List.length_map, List.length_cons, List.length_nil]; omega
      k_steps
      rename News _ _ _ _ => N4
      refine wpAny_truthy_list (News.isList N4 (.tail _ (.head _))) hfit ?_
      rw [show (!(((c0.map fun p => Value.ref p.1) ++ [Value.ref a]).toArray.isEmpty)) = true by simp]
      dsimp only
      k_steps
      refine tail_last (News.isList N4 (.tail _ (.head _))) ?_ rfl
      dsimp only
      k_steps
      refine tail_pos (x := .int q t1) (News.ol N4 (.tail _ (.tail _ (List.mem_append_right _ (.head _)))) ho) (by decide) (by decide) rfl ?_ rfl
      dsimp only
      k_steps
      · rename News _ _ _ _ => N5
        rename q = k => hqk
        refine tail_last (News.isList N5 (.tail _ (.head _))) ?_ rfl
        dsimp only
        k_steps
        refine wpAny_getItem_list (x := .int (c : Int) t2) (News.ol N5 (.tail _ (.tail _ (List.mem_append_right _ (.head _)))) ho) (by decide) (by decide) rfl ?_
        dsimp only
        k_steps
        rename Fr _ _ _ _ => F5
        refine set_led (pre := (I, oI) :: (R, _) :: c0) (post := []) (o := o) F5 N5 ?_ (fun p hp => nomatch hp) ho (by decide) (by decide) (by simp) (fun h' o' F6 N6 ho' => ?_)
        · intro p hp
          simp only [List.mem_cons] at hp
          rcases hp with rfl | rfl | hp
          · exact Ne.symm haI'
          · exact Ne.symm haR'
          · exact hnda p hp
        clear F5 N5
        dsimp only
        k_steps
        refine hK0 _ _ _ ?_
        refine ⟨h', _, _, (R, listOf ((c0.map fun p => Value.ref p.1) ++ [Value.ref a]).toArray n) :: (c0 ++ [(a, o')]), rfl, F6, News.sub N6 (fun p hp => ?_), ?_, some (.int k tkk), n, c0 ++ [(a, o')], ov_ov _ _ _ _, ?_, ?_, ?_⟩
        · simp only [List.append_nil, List.mem_cons, List.mem_append, List.not_mem_nil, or_false] at hp ⊢
          grind
        · intro p hp
          simp only [List.mem_cons, List.mem_append, List.not_mem_nil, or_false] at hp
          rcases hp with rfl | hp | rfl
          · exact hRI
          · exact hc0I p hp
          · exact haI'
        · simp
        · rw [hrun, ers, ← hqk, runStep_again]
          exact cells_snoc' hcs ⟨_, _, by simpa using ho'⟩
        · simpa using hnd
      · rename_i tk1 l' hz l1' h' F4 N4
        rename q ≠ k => hqk
        refine hK0 _ _ _ ?_
        refine ⟨h', _, _, (R, listOf (((c0.map fun p => Value.ref p.1) ++ [Value.ref a]).toArray.push (.ref l')) (n + 1)) :: (c0 ++ [(a, o)] ++ [(l', listOf #[.int k tkk, .int 1 tk1] 0)]), rfl, F4, News.sub N4 (fun p hp => ?_), ?_, some (.int k tkk), n + 1, c0 ++ [(a, o)] ++ [(l', listOf #[.int k tkk, .int 1 tk1] 0)], ov_ov _ _ _ _, ?_, ?_, ?_⟩
        · simp only [List.append_nil, List.mem_cons, List.mem_append, List.not_mem_nil, or_false] at hp ⊢
          grind
        · intro p hp
          simp only [List.mem_cons, List.mem_append, List.not_mem_nil, or_false] at hp
          rcases hp with rfl | (hp | rfl) | rfl
          · exact hRI
          · exact hc0I p hp
          · exact haI'
          · exact Nat.ne_of_gt l1'.1
        · simp
        · rw [hrun, ers, runStep_new (by simp [hqk])]
          exact cells_snoc' (by rw [← ers]; exact hc) ⟨_, _, OList.of _ _⟩
        · have hall := allLt_mem l1'.2.2
          simp only [List.map_append, List.map_cons, List.map_nil] at hnd1 hnd2 ⊢
          rw [List.nodup_cons]
          refine ⟨?_, List.nodup_append.mpr ⟨hnd2, by simp, ?_⟩⟩
          · simp only [List.mem_append, List.mem_cons, List.not_mem_nil, or_false] at hnd1 ⊢
            have := Nat.ne_of_lt l1'.2.1
            grind
          · intro x hx y hy
            rw [List.mem_singleton.mp hy]
            have hx' : x ∈ (c0 ++ [(a, o)]).map (·.1) := by simpa using hx
            obtain ⟨p, hp, rfl⟩ := List.mem_map.mp hx'
            exact Nat.ne_of_lt (hall p hp)
  case done =>
    rintro m₁ nl h tk ⟨u, n, cells, rfl, rfl, hc, hnd⟩ F₃ N₃
    dsimp only
    k_steps
    obtain ⟨F4, N4⟩ := back F N F₃ N₃
    refine ret R n cells h _ F4 (by simpa using N4) ?_
    rwa [List.size_toArray, hi.length, List.take_length] at hc
end
end
section
open PySem PySem.W PyProof.Rows PyProof.V PySem.Spec PySem.Calls
def KvsOf : List (Int × Value) → List (Int × Nat) → Prop
  | [], [] => True
  | (k, v) :: kvs, (r, p) :: l => (k = r ∧ ∃ t, v = .int (p : Int) t) ∧ KvsOf kvs l
  | _, _ => False
theorem kvs_snoc {kvs : List (Int × Value)} {r : Int} {p : Nat} {t : Tok} : ∀ {l : List (Int × Nat)}, KvsOf kvs l → KvsOf (kvs ++ [(r, .int (p : Int) t)]) (l ++ [(r, p)]) := by
  induction kvs with
  | nil =>
    intro l h
    match l, h with
    | [], _ => exact ⟨⟨rfl, t, rfl⟩, trivial⟩
  | cons q kvs ih =>
    intro l h
    obtain ⟨k, v⟩ := q
    match l, h with
    | (r', p') :: l, h => exact ⟨h.1, ih h.2⟩
theorem kvs_fst {kvs : List (Int × Value)} : ∀ {l : List (Int × Nat)}, KvsOf kvs l → kvs.map (·.1) = l.map (·.1) := by
  induction kvs with
  | nil =>
    intro l h
    match l, h with
    | [], _ => rfl
  | cons q kvs ih =>
    intro l h
    obtain ⟨k, v⟩ := q
    match l, h with
    | (r', p') :: l, h =>
      obtain ⟨⟨rfl, _⟩, h2⟩ := h
      simp [ih h2]
section
local macro_rules | `(tactic| k_all) => `(tactic| assumption)
local macro_rules | `(tactic| k_all) => `(tactic| (refine List.forall_mem_append.mpr ⟨?_, ?_⟩ <;> k_all))
local macro_rules | `(tactic| walk_at "exec For Name Call cons nil") => `(tactic| refine halt ?_)
local macro_rules | `(tactic| walk_at "pyIter ref") => `(tactic| refine halt ?_)
local macro_rules | `(tactic| walk_at "subscriptTail Name Name ref int") => `(tactic| refine halt ?_)
local macro_rules | `(tactic| walk_at "subscriptTail Subscript Constant ref int") => `(tactic| refine halt ?_)
local macro_rules | `(tactic| walk_at "setItem ref int int") => `(tactic| refine halt ?_)
set_option maxRecDepth 100000 in
set_option maxHeartbeats 8000000 in
theorem rises_spec {w : World} {mean : ExcName → Option Value} {mg mb : Str → Option Value} {h₀ : Heap} {e1 e2 : Env} {L R : Addr} {m : Str → Option Value} {news : List (Addr × Obj)} {rs : List Run} {i : Nat} {ti : Tok}
    {s : Shared} {Q E : Value → Shared → Prop} (F : Fr h₀ L s.heap m) (X : (hd.heap_39 w.params).In h₀) (N : News h₀ L s.heap news) (T : TopH mean mg mb h₀)
    (hR : RunsAt s.heap R rs) (hlen : rs.length ≤ 24) (hi : i ≤ rs.length)
    (ret : ∀ Tu D oD kvs tt n h' tk', Fr h₀ L h' m → News h₀ L h' ([(Tu, ({ cls := .type "tuple", data := .seq #[.ref D, .int (topOf (-1) (rs.drop i)) tt] n } : Obj)), (D, oD)] ++ news) → oD.IsDictOf (intKind PG w) kvs → KvsOf kvs (recs (-1) i (rs.drop i)) → (D == sysModules) = false → Q (.ref Tu) { s with heap := h', toks := tk' }) :
    wpAny (model PG w) ((callerA.deeper e1).deeper e2) (call (.ref 54) [.ref R, .int (i : Int) ti]) Q E s := by
  obtain ⟨as, has, hRl, hcell⟩ := hR.list
  refine' call_own (binds := [("runs", .ref R), ("start", .int (i : Int) ti)]) F X T ?k6 ?k7 ?k8 ?k9 ?kB ?_ ?c5 ?c2 ?c3 ?c4
  case k6 => k_is
  case k7 => k_is
  case k8 => (simp only [depth_deeper, depth_caller]; decide)
  case k9 => exact BindsTo.of_eq rfl
  case kB => exact locs rfl
  case c5 => decide
  case c2 => exact rfl
  case c3 => exact rfl
  case c4 => exact rfl
  intro h₁ F' X' T'
  have F'' := fr_eq F' (lookup2 _ _ _ _)
  clear F'
  have N' : News s.heap s.heap.objs.size h₁ [] := News.nil
  try dsimp only
  k_steps
  refine wpAny_For ?_ (fun _ => rfl)
  k_steps
  have hsz : (as.map Value.ref).toArray.size = rs.length := by simp [has]
  rename Fr _ _ _ _ => F2
  refine call_len_list (hRl.at fun o e => F2.keep _ o e) (by rw [hsz]; omega) ?_
  rw [hsz]
  try dsimp only
  k_steps
  rename IsRange _ _ _ _ _ _ _ _ => hr
  rename Fr _ _ _ _ => F3
  rename News _ _ _ _ => N3
  rename Obj.IsDictOf (intKind PG w) _ _ => hd0
  rename_i D hx1 o0 hx2 hx13 hx3 hx4 hx5 hx6 hx7 hx8 hx9 hx11 hx12 tt1 tt2 tt3 hx10
  have cells : ∀ j, j < rs.length - i → ∃ r c a t1 t2, rs[i + j]? = some (r, c) ∧ (rs.drop i).take (j + 1) = (rs.drop i).take j ++ [(r, c)] ∧ (as.map Value.ref).toArray[((i : Int) + (j : Int)).toNat]? = some (.ref a) ∧ s.heap.IsList a #[.int r t1, .int (c : Int) t2] := by
    intro j hj
    have hlt : i + j < rs.length := by omega
    obtain ⟨a, t1, t2, h1, h2⟩ := hcell (i + j) rs[i + j].1 rs[i + j].2 (List.getElem?_eq_getElem hlt)
    refine ⟨_, _, a, t1, t2, List.getElem?_eq_getElem hlt, ?_, ?_, h2⟩
    · rw [List.take_add_one, List.getElem?_drop, List.getElem?_eq_getElem hlt]; rfl
    · rw [show ((i : Int) + (j : Int)).toNat = i + j by omega]
      simp [h1]
  refine iter_range (base := s.heap) (L := s.heap.objs.size) (fz := []) (fun j m nl => ∃ (u : Option Value) (kvs : List (Int × Value)) (oD : Obj) (tt : Tok), m = (fun y => if y = ("place" : Str) then u else if y = "top" then some (.int (topOf (-1) ((rs.drop i).take j)) tt) else if y = "rises" then some (.ref D) else if y = "start" then some (.int (i : Int) ti) else if y = "runs" then some (.ref R) else none)
    ∧ nl = [(D, oD)] ∧ oD.IsDictOf (intKind PG w) kvs ∧ KvsOf kvs (recs (-1) i ((rs.drop i).take j))) rfl hr (by omega) (by omega) (by omega) (by omega) F3 (by rw [List.append_nil]; exact N3) ⟨none, [], o0, _, ov_self rfl, rfl, hd0, trivial⟩ ?turn ?done PassesOwn.never (fun _ _ => rfl)
  case turn =>
    rintro I oI j tj m₁ nl h tk hj hJ hnI F4 N4
    refine opq_for fun σ K0 hK0 => ?_
    obtain ⟨u, kvs, oD, tt, rfl, rfl, hD, hkv⟩ := hJ
    obtain ⟨r, c, a, t1, t2, hrc, htake, hat, hal⟩ := cells j (by omega)
    simp only [List.append_nil] at N4 hnI
    have hDI : @Ne Nat D I := hnI _ List.mem_cons_self
    k_steps
    rename Fr _ _ _ _ => F5
    refine tail_pos (x := .ref a) (hRl.at fun o e => F5.keep _ o e) (by omega) (by omega) hat ?_ rfl
    try dsimp only
    k_steps
    · rename Fr _ _ _ _ => F5
      refine tail_pos (x := .ref a) (hRl.at fun o e => F5.keep _ o e) (by omega) (by omega) hat ?_ rfl
      try dsimp only
      k_steps
      rename Fr _ _ _ _ => F6
      rename News _ _ _ _ => N6
      rename topOf _ _ < _ => hgt
      have hkl := congrArg List.length (kvs_fst hkv)
      have hrl := recs_length (-1) i ((rs.drop i).take j)
      simp only [List.length_map, List.length_take, List.length_drop] at hkl hrl
      refine dset_led (pre := [(I, oI)]) (post := []) F6 N6 (fun p hp => by rw [List.mem_singleton.mp hp]; exact Ne.symm hDI) (fun p hp => nomatch hp) hD (by omega) (fun h' o' F7 N7 hD' => ?_)
      try dsimp only
      k_steps
      refine hK0 _ _ _ ?_
      refine ⟨h', _, _, [(D, o')], rfl, F7, N7, ?_, some (.int ((i : Int) + (j : Int)) tj), _, o', t1, ?_, rfl, hD', ?_⟩
      · intro p hp
        rw [List.mem_singleton.mp hp]; exact hDI
      · rw [htake, topOf_snoc, if_pos hgt]
        exact ov_swap (by decide) _ _ _ _ _
      · have hnew : r ∉ kvs.map (·.1) := by
          rw [kvs_fst hkv]
          intro hm
          obtain ⟨x, hx, e⟩ := List.mem_map.mp hm
          have := recs_le_top hx
          omega
        rw [htake, recs_snoc, if_pos hgt, stored_new hnew]
        have e : i + ((rs.drop i).take j).length = i + j := by rw [List.length_take, List.length_drop]; omega
        rw [e, show (i : Int) + (j : Int) = ((i + j : Nat) : Int) by omega]
        exact kvs_snoc hkv
    · rename News _ _ _ _ => N6
      rename ¬ topOf _ _ < _ => hgt
      refine hK0 _ _ _ ?_
      refine ⟨_, _, _, [(D, oD)], rfl, F5, N6, ?_, some (.int ((i : Int) + (j : Int)) tj), kvs, oD, tt, ?_, rfl, hD, ?_⟩
      · intro p hp
        rw [List.mem_singleton.mp hp]; exact hDI
      · rw [htake, topOf_snoc, if_neg hgt]
        exact ov_ov _ _ _ _
      · rw [htake, recs_snoc, if_neg hgt]
        exact hkv
  case done =>
    rintro m₁ nl h tk ⟨u, kvs, oD, tt, rfl, rfl, hD, hkv⟩ F4 N4
    simp only [List.append_nil] at N4
    have hfull : (rs.drop i).take ((rs.length : Int) - (i : Int)).toNat = rs.drop i := List.take_of_length_le (by rw [List.length_drop]; omega)
    rw [hfull] at F4 hkv
    try dsimp only
    k_steps
    rename Fr _ _ _ _ => F6
    rename News _ _ _ _ => N6
    obtain ⟨F7, N7⟩ := back F N F6 N6
    exact ret _ D oD kvs tt 0 _ _ F7 N7 hD hkv (by assumption)
end
end
section
open PySem PySem.W PyProof.Rows PyProof.V PySem.Spec PySem.Calls
theorem flat_rep {α : Type} (n : Nat) (x : α) : (List.replicate n [x]).flatten = List.replicate n x := by
  induction n with
  | zero => rfl
  | succ n ih => rw [List.replicate_succ, List.replicate_succ, List.flatten_cons, ih]; rfl
section
local macro_rules | `(tactic| walk_at "exec For Tuple Subscript cons nil") => `(tactic| refine halt ?_)
local macro_rules | `(tactic| walk_at "pyIter ref") => `(tactic| refine halt ?_)
set_option maxRecDepth 100000 in
set_option maxHeartbeats 8000000 in
theorem rest_spec {w : World} {mean : ExcName → Option Value} {mg mb : Str → Option Value} {h₀ : Heap} {e1 e2 : Env} {L R : Addr} {m : Str → Option Value} {news : List (Addr × Obj)} {rs : List Run} {i : Nat} {ti to : Tok} {o : Int}
    {s : Shared} {Q E : Value → Shared → Prop} (F : Fr h₀ L s.heap m) (X : (hd.heap_39 w.params).In h₀) (N : News h₀ L s.heap news) (T : TopH mean mg mb h₀)
    (hR : RunsAt s.heap R rs) (hlen : (expand rs).length ≤ 24) (hlen' : rs.length ≤ 24) (hi : i ≤ rs.length)
    (ret : ∀ V vs n h' tk', Fr h₀ L h' m → News h₀ L h' ((V, listOf vs.toArray n) :: news) → IntsAre vs (restOf o (rs.drop i)) → Q (.ref V) { s with heap := h', toks := tk' }) :
    wpAny (model PG w) ((callerA.deeper e1).deeper e2) (call (.ref 61) [.ref R, .int (i : Int) ti, .int o to]) Q E s := by
  obtain ⟨as, has, hRl, hcell⟩ := hR.list
  refine' call_own (binds := [("runs", .ref R), ("start", .int (i : Int) ti), ("other", .int o to)]) F X T ?k6 ?k7 ?k8 ?k9 ?kB ?_ ?c5 ?c2 ?c3 ?c4
  case k6 => k_is
  case k7 => k_is
  case k8 => (simp only [depth_deeper, depth_caller]; decide)
  case k9 => exact BindsTo.of_eq rfl
  case kB => exact locs rfl
  case c5 => decide
  case c2 => exact rfl
  case c3 => exact rfl
  case c4 => exact rfl
  intro h₁ F' X' T'
  have F'' := fr_eq F' (lookup3 _ _ _ _ _ _)
  clear F'
  have N' : News s.heap s.heap.objs.size h₁ [] := News.nil
  try dsimp only
  k_steps
  refine wpAny_For ?_ (fun _ => rfl)
  k_steps
  rw [slicePick_from _ _ (by simp [has, hi])] at *
  simp only [List.toList_toArray, ← List.map_drop] at *
  rename Fr _ _ _ _ => F3
  rename News _ _ _ _ => N3
  rename_i V hx1 hx2 hx3 hx4 hx5 hx6 hx7
  have cells : ∀ j v, ((as.drop i).map Value.ref)[j]? = some v → ∃ (r : Int) (c : Nat) (a : Addr) (t1 t2 : Tok), v = .ref a ∧ (rs.drop i).take (j + 1) = (rs.drop i).take j ++ [(r, c)] ∧ s.heap.IsList a #[.int r t1, .int (c : Int) t2] := by
    intro j v hv
    have hj := (List.getElem?_eq_some_iff.mp hv).1
    rw [List.length_map, List.length_drop] at hj
    have hlt : i + j < rs.length := by omega
    obtain ⟨a, t1, t2, h1, h2⟩ := hcell (i + j) rs[i + j].1 rs[i + j].2 (List.getElem?_eq_getElem hlt)
    refine ⟨_, _, a, t1, t2, ?_, ?_, h2⟩
    · rw [List.getElem?_map, List.getElem?_drop, h1] at hv
      exact (Option.some.inj hv).symm
    · rw [List.take_add_one, List.getElem?_drop, List.getElem?_eq_getElem hlt]; rfl
  have hex : ∀ j, (expand ((rs.drop i).take j)).length ≤ 24 := fun j => Nat.le_trans (expand_take_le _ _) (Nat.le_trans (expand_drop_le _ _) hlen)
  have hrl : ∀ j, (restOf o ((rs.drop i).take j)).length ≤ 48 := by
    intro j
    have h1 := restOf_length o ((rs.drop i).take j)
    have h2 := hex j
    rw [List.length_take, List.length_drop] at h1
    omega
  try dsimp only at N3
  try dsimp only
  have hVl : @Ne Nat V (hx4.objs.size + 1) := by
    have h0 : @LT.lt Nat _ V hx4.objs.size := Heap.lt_size (hx6 _ List.mem_cons_self).1
    omega
  generalize hx4.objs.size + 1 = l2 at N3 hVl
  refine iter_list (base := s.heap) (L := s.heap.objs.size) (news := [(V, listOf #[] 0)]) (fz := [(l2, listOf ((as.drop i).map Value.ref).toArray 0)]) (items := ((as.drop i).map Value.ref).toArray) (fun j m nl => ∃ (u1 u2 : Option Value) (vs : List Value) (n : Nat), m = (fun y => if y = ("times" : Str) then u1 else if y = "rank" then u2 else if y = "whole" then some (.bool (wholeOf o ((rs.drop i).take j))) else if y = "told" then some (.ref V) else if y = "other" then some (.int o to) else if y = "start" then some (.int (i : Int) ti) else if y = "runs" then some (.ref R) else none)
    ∧ nl = [(V, listOf vs.toArray n)] ∧ IntsAre vs (restOf o ((rs.drop i).take j))) rfl (.inr ⟨_, List.mem_cons_self, OList.of _ _⟩) F3 (News.sub N3 ?sub) ⟨none, none, [], 0, ?m0, rfl, .nil⟩ ?turn ?done PassesOwn.never
  case sub =>
    intro p hp
    simp only [List.cons_append, List.nil_append, List.mem_cons, List.not_mem_nil, or_false] at hp ⊢
    exact hp.symm
  case m0 =>
    funext y
    by_cases h1 : y = ("times" : Str)
    · rw [h1]; rfl
    by_cases h2 : y = ("rank" : Str)
    · rw [h2]; rfl
    rw [if_neg h1, if_neg h2]; rfl
  case turn =>
    rintro I oI j v m₁ nl h tk hv hJ hnI F4 N4
    refine opq_for fun σ K0 hK0 => ?_
    obtain ⟨u1, u2, vs, n, rfl, rfl, hvs⟩ := hJ
    obtain ⟨r, c, a, t1, t2, rfl, htake, hal⟩ := cells j v (by simpa using hv)
    have hl1 := hrl j
    have hl2 := hrl (j + 1)
    have hvl := hvs.length
    have hc : c ≤ 24 := by
      have := hex (j + 1)
      rw [htake, expand_append, List.length_append, expand_cons, expand_nil, List.append_nil, List.length_replicate] at this
      omega
    have hVI : @Ne Nat V I := hnI (V, listOf vs.toArray n) (List.mem_cons_self)
    simp only [List.cons_append, List.nil_append] at N4
    have halh := hal.at fun o e => F4.keep _ o e
    cases hw : wholeOf o ((rs.drop i).take j) with
    | true =>
      rw [hw] at F4
      k_steps
      · rename Fr _ _ _ _ => F6
        rename News _ _ _ _ => N6
        rename o < r => hor
        rename_i l' hy1 Fy Ny ly D' hy2 i1 n1 s1 q1 q2 q3 lz
        have hfl : (List.replicate ((c : Int)).toNat [r]).flatten = List.replicate c r := by
          rw [Int.toNat_natCast]; exact flat_rep c r
        rw [hfl] at i1
        have hil := i1.length
        rw [List.length_replicate] at hil
        have hw' : wholeOf o ((rs.drop i).take (j + 1)) = true := by rw [htake, wholeOf_snoc, hw]; simp [hor]
        refine iadd_led (pre := [(D', _), (l', _), (I, oI)]) (post := [(l2, _)]) F6 N6 ?_ ?_ (N6.get (.head _)) ?_ (fun h' n' F7 N7 => ?_)
        · intro p hp
          simp only [List.mem_cons, List.not_mem_nil, or_false] at hp
          rcases hp with rfl | rfl | rfl
          · exact Nat.ne_of_gt lz.2.2.1
          · exact Nat.ne_of_gt ly.2.1
          · exact Ne.symm hVI
        · intro p hp
          rw [List.mem_singleton.mp hp]
          exact Ne.symm hVl
        · simp only [List.size_toArray]; omega
        try dsimp only
        k_steps
        rename Fr _ _ _ _ => F8
        rename News _ _ _ _ => N8
        refine hK0 _ _ _ ?_
        refine ⟨_, _, _, [(V, listOf (vs ++ (List.replicate ((c : Int)).toNat [Value.int r t1]).flatten).toArray n')], rfl, F8, News.sub N8 (fun p hp => ?_), fun p hp => ?_, some (.int (c : Int) t2), some (.int r t1), _, n', ?_, rfl, ?_⟩
        · simp only [List.cons_append, List.nil_append, List.mem_cons, List.not_mem_nil, or_false] at hp ⊢
          rcases hp with rfl | rfl | rfl
          · simp
          · simp
          · simp
        · rw [List.mem_singleton.mp hp]; exact hVI
        · rw [hw']
          exact (by
          funext y
          by_cases q1 : y = ("told" : Str)
          · rw [q1]; rfl
          by_cases q2 : y = ("whole" : Str)
          · rw [q2]; rfl
          by_cases q3 : y = ("times" : Str)
          · rw [q3]; rfl
          by_cases q4 : y = ("rank" : Str)
          · rw [q4]; rfl
          simp only [q1, q2, q3, q4, if_false])
        · rw [htake, restOf_snoc, ← htake, hw', if_pos rfl]
          exact hvs.append i1
      · rename Fr _ _ _ _ => F6
        rename News _ _ _ _ => N6
        rename ¬ o < r => hor
        rename_i l' hy1 Fy Ny ly D' hy2 i1 n1 s1 q1 q2 q3 lz
        have hfl : (List.replicate ((c : Int)).toNat [r]).flatten = List.replicate c r := by
          rw [Int.toNat_natCast]; exact flat_rep c r
        rw [hfl] at i1
        have hil := i1.length
        rw [List.length_replicate] at hil
        have hw' : wholeOf o ((rs.drop i).take (j + 1)) = true := by rw [htake, wholeOf_snoc, hw]; simp [hor]
        refine iadd_led (pre := [(D', _), (l', _), (I, oI)]) (post := [(l2, _)]) F6 N6 ?_ ?_ (N6.get (.head _)) ?_ (fun h' n' F7 N7 => ?_)
        · intro p hp
          simp only [List.mem_cons, List.not_mem_nil, or_false] at hp
          rcases hp with rfl | rfl | rfl
          · exact Nat.ne_of_gt lz.2.2.1
          · exact Nat.ne_of_gt ly.2.1
          · exact Ne.symm hVI
        · intro p hp
          rw [List.mem_singleton.mp hp]
          exact Ne.symm hVl
        · simp only [List.size_toArray]; omega
        try dsimp only
        k_steps
        rename Fr _ _ _ _ => F8
        rename News _ _ _ _ => N8
        refine hK0 _ _ _ ?_
        refine ⟨_, _, _, [(V, listOf (vs ++ (List.replicate ((c : Int)).toNat [Value.int r t1]).flatten).toArray n')], rfl, F8, News.sub N8 (fun p hp => ?_), fun p hp => ?_, some (.int (c : Int) t2), some (.int r t1), _, n', ?_, rfl, ?_⟩
        · simp only [List.cons_append, List.nil_append, List.mem_cons, List.not_mem_nil, or_false] at hp ⊢
          rcases hp with rfl | rfl | rfl
          · simp
          · simp
          · simp
        · rw [List.mem_singleton.mp hp]; exact hVI
        · rw [hw']
          exact (by
          funext y
          by_cases q1 : y = ("told" : Str)
          · rw [q1]; rfl
          by_cases q2 : y = ("whole" : Str)
          · rw [q2]; rfl
          by_cases q3 : y = ("times" : Str)
          · rw [q3]; rfl
          by_cases q4 : y = ("rank" : Str)
          · rw [q4]; rfl
          simp only [q1, q2, q3, q4, if_false])
        · rw [htake, restOf_snoc, ← htake, hw', if_pos rfl]
          exact hvs.append i1
    | false =>
      rw [hw] at F4
      k_steps
      · rename Fr _ _ _ _ => F6
        rename News _ _ _ _ => N6
        rename o < r => hor
        rename_i l' hy1 Fy Ny ly D' hy2 i1 n1 s1 q1 q2 q3 lz
        have hfl : (List.replicate ((c : Int)).toNat [r]).flatten = List.replicate c r := by
          rw [Int.toNat_natCast]; exact flat_rep c r
        rw [hfl] at i1
        have hil := i1.length
        rw [List.length_replicate] at hil
        have hw' : wholeOf o ((rs.drop i).take (j + 1)) = true := by rw [htake, wholeOf_snoc, hw]; simp [hor]
        refine iadd_led (pre := [(D', _), (l', _), (I, oI)]) (post := [(l2, _)]) F6 N6 ?_ ?_ (N6.get (.head _)) ?_ (fun h' n' F7 N7 => ?_)
        · intro p hp
          simp only [List.mem_cons, List.not_mem_nil, or_false] at hp
          rcases hp with rfl | rfl | rfl
          · exact Nat.ne_of_gt lz.2.2.1
          · exact Nat.ne_of_gt ly.2.1
          · exact Ne.symm hVI
        · intro p hp
          rw [List.mem_singleton.mp hp]
          exact Ne.symm hVl
        · simp only [List.size_toArray]; omega
        try dsimp only
        k_steps
        rename Fr _ _ _ _ => F8
        rename News _ _ _ _ => N8
        refine hK0 _ _ _ ?_
        refine ⟨_, _, _, [(V, listOf (vs ++ (List.replicate ((c : Int)).toNat [Value.int r t1]).flatten).toArray n')], rfl, F8, News.sub N8 (fun p hp => ?_), fun p hp => ?_, some (.int (c : Int) t2), some (.int r t1), _, n', ?_, rfl, ?_⟩
        · simp only [List.cons_append, List.nil_append, List.mem_cons, List.not_mem_nil, or_false] at hp ⊢
          rcases hp with rfl | rfl | rfl
          · simp
          · simp
          · simp
        · rw [List.mem_singleton.mp hp]; exact hVI
        · rw [hw']
          exact (by
          funext y
          by_cases q1 : y = ("told" : Str)
          · rw [q1]; rfl
          by_cases q2 : y = ("whole" : Str)
          · rw [q2]; rfl
          by_cases q3 : y = ("times" : Str)
          · rw [q3]; rfl
          by_cases q4 : y = ("rank" : Str)
          · rw [q4]; rfl
          simp only [q1, q2, q3, q4, if_false])
        · rw [htake, restOf_snoc, ← htake, hw', if_pos rfl]
          exact hvs.append i1
      · rename Fr _ _ _ _ => F6
        rename News _ _ _ _ => N6
        rename ¬ o < r => hor
        have hw' : wholeOf o ((rs.drop i).take (j + 1)) = false := by rw [htake, wholeOf_snoc, hw]; simp [hor]
        refine hK0 _ _ _ ?_
        refine ⟨_, _, _, [(V, listOf (vs.toArray.push (.int r t1)) (n + 1))], rfl, F6, News.sub N6 (fun p hp => ?_), fun p hp => ?_, some (.int (c : Int) t2), some (.int r t1), vs ++ [.int r t1], n + 1, ?_, ?_, ?_⟩
        · simpa using hp
        · rw [List.mem_singleton.mp hp]; exact hVI
        · rw [hw']
          funext y
          by_cases q3 : y = ("times" : Str)
          · rw [q3]; rfl
          by_cases q4 : y = ("rank" : Str)
          · rw [q4]; rfl
          simp only [q3, q4, if_false]
        · simp
        · rw [htake, restOf_snoc, ← htake, hw', if_neg (by decide)]
          exact hvs.append (.cons r t1 .nil)
  case done =>
    rintro m₁ nl h tk ⟨u1, u2, vs, n, rfl, rfl, hvs⟩ F4 N4
    try dsimp only
    k_steps
    try dsimp only
    obtain ⟨F5, N5⟩ := back F N F4 (News.sub (l' := [(V, listOf vs.toArray n)]) N4 (fun p hp => List.mem_append_left _ hp))
    refine ret V vs n h tk F5 N5 ?_
    rwa [List.take_of_length_le (by simp [has])] at hvs
end
end
section
open PySem PySem.W PyProof.Rows PyProof.V PySem.Spec PySem.Calls
theorem cells_olist {cs : List (Addr × Obj)} {rs : List Run} (h : CellsOf cs rs) (p : Addr × Obj) (hp : p ∈ cs) : ∃ its, OList p.2 its := by
  obtain ⟨i, hi⟩ := List.getElem?_of_mem hp
  have hlt := (List.getElem?_eq_some_iff.mp hi).1
  rw [cells_len h] at hlt
  obtain ⟨a, o, t1, t2, e, ho⟩ := cells_get h (r := rs[i].1) (c := rs[i].2) (List.getElem?_eq_getElem hlt)
  rw [hi] at e
  cases e
  exact ⟨_, ho⟩
theorem News.ne {base h : Heap} {L a b : Addr} {o o' : Obj} {news : List (Addr × Obj)} (N : News base L h news) (ha : (a, o) ∈ news) (hb : (b, o') ∈ news) (hne : o ≠ o') : a ≠ b := by
  rintro rfl
  have h1 := (N _ ha).1
  have h2 := (N _ hb).1
  exact hne (Option.some.inj (h1.symm.trans h2))
theorem cells_firsts {cs : List (Addr × Obj)} : ∀ {rs : List Run}, CellsOf cs rs → ∃ fs : List Value, IntsAre fs (rs.map (·.1)) ∧ ∀ (j : Nat) (p : Addr × Obj) (v : Value), cs[j]? = some p → fs[j]? = some v → ∃ v₂, OList p.2 #[v, v₂] := by
  induction cs with
  | nil =>
    intro rs h
    match rs, h with
    | [], _ => exact ⟨[], .nil, fun j p v e => by simp at e⟩
  | cons q cs ih =>
    intro rs h
    obtain ⟨b, o⟩ := q
    match rs, h with
    | (r, c) :: rs, h =>
      obtain ⟨⟨t1, t2, ho⟩, h2⟩ := h
      obtain ⟨fs, hi, hf⟩ := ih h2
      refine ⟨.int r t1 :: fs, .cons r t1 hi, fun j p v e1 e2 => ?_⟩
      cases j with
      | zero =>
        simp only [List.getElem?_cons_zero, Option.some.injEq] at e1 e2
        subst e1 e2
        exact ⟨_, ho⟩
      | succ j => exact hf j p v (by simpa using e1) (by simpa using e2)
theorem cells_pairs {cells : List (Addr × Obj)} {rs : List Run} (c : CellsOf cells rs) : ∃ fs : List Value, IntsAre fs (rs.map (·.1)) ∧ ∀ {base h : Heap} {L : Addr} {news : List (Addr × Obj)}, News base L h news → (∀ p ∈ cells, p ∈ news) →
    ∀ (j : Nat) (a : Addr) (v : Value), (cells.map (·.1))[j]? = some a → fs[j]? = some v → ∃ v₂, h.IsList a #[v, v₂] := by
  obtain ⟨fs, hi, hf⟩ := cells_firsts c
  refine ⟨fs, hi, fun N hk j d v e1 e2 => ?_⟩
  rw [List.getElem?_map] at e1
  obtain ⟨p, hp, rfl⟩ := Option.map_eq_some_iff.mp e1
  obtain ⟨v₂, ho⟩ := hf j p v hp e2
  exact ⟨v₂, p.2, (N p (hk p (List.mem_of_getElem? hp))).1, ho.1, ho.2⟩
theorem pairs_cut {h : Heap} {as : List Addr} {fs : List Value} (x : ∀ (j : Nat) (a : Addr) (v : Value), as[j]? = some a → fs[j]? = some v → ∃ v₂, h.IsList a #[v, v₂]) (i k : Nat) :
    ∀ (j : Nat) (a : Addr) (v : Value), ((as.drop i).take k)[j]? = some a → ((fs.drop i).take k)[j]? = some v → ∃ v₂, h.IsList a #[v, v₂] := by
  intro j a v e1 e2
  rw [List.getElem?_take] at e1 e2
  by_cases hj : j < k
  · rw [if_pos hj, List.getElem?_drop] at e1 e2
    exact x _ a v e1 e2
  · rw [if_neg hj] at e1
    cases e1
theorem slice_refs (as : List Addr) (i p : Nat) (hi : i ≤ p) (hp : p ≤ as.length) : slicePick (as.map Value.ref).toArray (some (i : Int)) (some (p : Int)) none = (((as.drop i).take (p - i)).map Value.ref).toArray := by
  rw [slicePick_run _ _ _ (by simpa using hp) hi]
  simp
theorem tup_ne_list {xs : Array Value} {n k : Nat} {ys : Array Value} : ({ cls := .type "tuple", data := .seq xs n } : Obj) ≠ W.listOf ys k := by
  intro e
  have := congrArg Obj.cls e
  simp [W.listOf] at this
theorem dict_ne_list {prog : Program} {w : World} {o : Obj} {kvs : List (Int × Value)} {xs : Array Value} {n : Nat} (h : o.IsDictOf (intKind prog w) kvs) : o ≠ W.listOf xs n := by
  rintro rfl
  obtain ⟨es, ep, _, hd, _⟩ := h
  cases hd
theorem olist_ne_cell {o o' : Obj} {its : Array Value} {c : Option Value} (h : OList o its) (h' : o'.data = .cell c) : o ≠ o' := by
  rintro rfl
  obtain ⟨_, k, hk⟩ := h
  rw [hk] at h'
  cases h'
theorem dict_ne_cell {prog : Program} {w : World} {o o' : Obj} {kvs : List (Int × Value)} {c : Option Value} (h : o.IsDictOf (intKind prog w) kvs) (h' : o'.data = .cell c) : o ≠ o' := by
  rintro rfl
  obtain ⟨es, ep, _, hd, _⟩ := h
  rw [hd] at h'
  cases h'
theorem seq_ne_cell {o o' : Obj} {xs : Array Value} {n : Nat} {c : Option Value} (h : o.data = .seq xs n) (h' : o'.data = .cell c) : o ≠ o' := by
  rintro rfl
  rw [h] at h'
  cases h'
theorem store_cell {prog : Program} {w : World} {A : Around} {E : Value → Shared → Prop} {s : Shared} {base : Heap} {L C : Addr} {m : Str → Option Value} {pre post : List (Addr × Obj)} {o : Obj} {v₀ : Option Value} {env : Env} {x : Str} {v : Value} {Q : Unit → Shared → Prop}
    (F : Fr base L s.heap m) (N : News base L s.heap (pre ++ (C, o) :: post)) (h1 : ∀ p ∈ pre, p.1 ≠ C) (h2 : ∀ p ∈ post, p.1 ≠ C) (hd : o.data = .cell v₀)
    (hk : env.scope.kind = .function) (hx : env.kindOf x = some .cell) (hc : env.cells.lookup x = some C)
    (h : ∀ h' o', Fr base L h' m → News base L h' (pre ++ (C, o') :: post) → o'.data = .cell (some v) → Q () { s with heap := h' }) :
    wpAny (model prog w) A (storeName env x v) Q E s := by
  have hmem := N (C, o) (List.mem_append_right _ (.head _))
  refine wpAny_storeName_cell hk hx hc ⟨o, hmem.1, hd⟩ fun h' hv hs => ?_
  obtain ⟨o', ho', hd'⟩ := hv
  exact h h' o' (F.change hs hmem.2.1 hmem.2.2) (N.setIn h1 h2 hs ho') hd'
theorem kvs_val {kvs : List (Int × Value)} : ∀ {l : List (Int × Nat)}, KvsOf kvs l → ∀ p ∈ kvs, ∃ (q : Nat) (t : Tok), p.2 = .int (q : Int) t ∧ (p.1, q) ∈ l := by
  induction kvs with
  | nil => intro l _ p hp; cases hp
  | cons q kvs ih =>
    intro l h p hp
    obtain ⟨k, v⟩ := q
    match l, h with
    | (r', p') :: l, h =>
      obtain ⟨⟨rfl, t, rfl⟩, h2⟩ := h
      rcases List.mem_cons.mp hp with rfl | hp
      · exact ⟨p', t, rfl, .head _⟩
      · obtain ⟨q, t, e, hm⟩ := ih h2 p hp
        exact ⟨q, t, e, .tail _ hm⟩
theorem kvs_mem {kvs : List (Int × Value)} {t : Int} {i : Nat} {R : List Run} (h : KvsOf kvs (recs t i R)) (k : Int) : k ∈ kvs.map (·.1) ↔ rankSet t R k := by
  rw [kvs_fst h, ← rankSet_of_recs (k := i)]
  simp
theorem valueAt_mem {kvs : List (Int × Value)} {k : Int} (h : (valueAt kvs k).isSome = true) : k ∈ kvs.map (·.1) := by
  obtain ⟨v, hv⟩ := Option.isSome_iff_exists.mp h
  unfold valueAt at hv
  obtain ⟨p, hp, rfl⟩ := Option.map_eq_some_iff.mp hv
  have h1 := List.find?_some hp
  exact List.mem_map.mpr ⟨p, List.mem_of_find?_eq_some hp, by simpa using h1⟩
theorem kvs_at {kvs : List (Int × Value)} {t : Int} {i : Nat} {R : List Run} (h : KvsOf kvs (recs t i R)) (k : Int) : (valueAt kvs k).isSome = true ↔ rankSet t R k := by
  rw [← kvs_mem h]
  constructor
  · exact valueAt_mem
  · intro hm
    obtain ⟨p, hp, rfl⟩ := List.mem_map.mp hm
    unfold valueAt
    rw [Option.isSome_map, List.find?_isSome]
    exact ⟨p, hp, by simp⟩
theorem valueAt_in {prog : Program} {w : World} {o : Obj} {kvs : List (Int × Value)} {k : Int} {v : Value} (h : o.IsDictOf (intKind prog w) kvs) (hm : (k, v) ∈ kvs) : valueAt kvs k = some v := by
  obtain ⟨es, ep, _, _, _, _, hn⟩ := h
  obtain ⟨i, hi⟩ := List.getElem?_of_mem hm
  exact valueAt_of_get hn hi
theorem tail_dict {prog : Program} {w : World} {A : Around} {E : Value → Shared → Prop} {s : Shared} {h₀ : Heap} {L d : Addr} {news : List (Addr × Obj)} {o : Obj} {kvs : List (Int × Value)} {k : Int} {u : Tok} {v : Value} {Q : Value → Shared → Prop} {value slice : PySem.Expr}
    (N : News h₀ L s.heap news) (hp : (d, o) ∈ news) (hd : o.IsDictOf (intKind prog w) kvs) (hl : valueAt kvs k = some v) (h : Q v { s with toks := s.toks + 1 })
    (hs : subscripted slice false (.ref d) (.int k u) = operate [.ref d, .int k u] (getItem (.ref d) (.int k u))) : wpAny (model prog w) A (subscriptTail value slice (.ref d) (.int k u)) Q E s :=
  kdt_tail N hp hd (kdt_getItem N hp hd (by simp [intKind, Value.isInt]) hl h) hs
theorem ar_sum {vm v1 mi i n r e e0 : Nat} (h1 : vm = mi) (h2 : mi ≤ i) (h3 : i ≤ n) (h4 : n ≤ 24) (h5 : v1 = r) (h6 : r ≤ n - i + e) (h7 : e ≤ e0) (h8 : e0 ≤ 24) : vm + v1 ≤ 16777216 := by omega
theorem ar_le {a n p : Nat} (h1 : a = n) (h2 : p < n) : p ≤ a := by omega
theorem cut_len {α β : Type} {fs : List α} {as : List β} {n i k : Nat} (h1 : fs.length = n) (h2 : as.length = n) : ((fs.drop i).take k).length = ((as.drop i).take k).length := by
  rw [List.length_take, List.length_take, List.length_drop, List.length_drop, h1, h2]
theorem cut_1000 {α : Type} {xs : List α} {i k n : Nat} (h : xs.length = n) (hn : n ≤ 24) : ((xs.drop i).take k).length ≤ 1000 := by
  rw [List.length_take, List.length_drop]; omega
theorem ar_cut {vm mi i p n fl : Nat} (h1 : vm = mi) (h2 : mi ≤ i) (h3 : i ≤ p) (h4 : p < n) (h5 : n ≤ 24) (h6 : fl ≤ p - i) : vm + fl ≤ 1000 := by omega
theorem ar_step {mi i p x : Nat} (h2 : mi ≤ i) (h3 : i ≤ p) : mi + min (p - i) x ≤ p + 1 := by omega
theorem ar_dec {k n i p : Nat} (hk : k = n - i) (h : i ≤ p) (h2 : p < n) : n - (p + 1) < k := by omega
theorem ar_1000 {a r n i : Nat} (h1 : a = r) (h2 : r ≤ n - i) (h3 : n ≤ 24) : a ≤ 1000 := by omega
section
local macro_rules | `(tactic| walk_at "SUB") => `(tactic| first | (refine List.forall_mem_cons.mpr ⟨by walk_at "MEM", ?_⟩; walk_at "SUB") | (refine List.forall_mem_append.mpr ⟨?_, ?_⟩ <;> walk_at "SUB") | exact List.forall_mem_nil _ | (intro p hp; walk_at "MEM"))
local macro_rules | `(tactic| walk_at "MEM") => `(tactic| first | assumption | exact List.Mem.head _ | (refine List.Mem.tail _ ?_; walk_at "MEM") | (refine List.mem_append_left _ ?_; walk_at "MEM") | (refine List.mem_append_right _ ?_; walk_at "MEM"))
local macro_rules | `(tactic| walk_at "call ref") => `(tactic| refine halt ?_)
local macro_rules | `(tactic| walk_at "subscriptTail Name Name ref int") => `(tactic| refine halt ?_)
local macro_rules | `(tactic| walk_at "eval ListComp") => `(tactic| refine halt ?_)
local macro_rules | `(tactic| walk_at "exec Assign cons ListComp") => `(tactic| refine halt ?_)
local macro_rules | `(tactic| walk_at "exec While Constant cons nil") => `(tactic| refine halt ?_)
set_option maxRecDepth 100000 in
set_option maxHeartbeats 8000000 in
theorem told_spec {w : World} {mean : ExcName → Option Value} {mg mb : Str → Option Value} {h₀ : Heap} {e1 : Env} {L lh lt : Addr} {m : Str → Option Value} {news : List (Addr × Obj)} {vh vt : List Value} {ns ms : List Int}
    {s : Shared} {Q E : Value → Shared → Prop} (F : Fr h₀ L s.heap m) (X : (hd.heap_39 w.params).In h₀) (N : News h₀ L s.heap news) (T : TopH mean mg mb h₀)
    (hlh : s.heap.IsList lh vh.toArray) (hih : IntsAre vh ns) (hnl : ns.length ≤ 24) (hlt : s.heap.IsList lt vt.toArray) (hit : IntsAre vt ms) (hml : ms.length ≤ 24) (hn0 : ∀ x ∈ ns, 0 ≤ x) (hm0 : ∀ x ∈ ms, 0 ≤ x)
    (ret : ∀ Tu x y vx vy n1 n2 n3 h' tk', Fr h₀ L h' m → News h₀ L h' ([(Tu, ({ cls := .type "tuple", data := .seq #[.ref x, .ref y] n3 } : Obj)), (x, listOf vx.toArray n1), (y, listOf vy.toArray n2)] ++ news) →
      IntsAre vx (sld ns ms).1 → IntsAre vy (sld ns ms).2 → Q (.ref Tu) { s with heap := h', toks := tk' }) :
    wpAny (model PG w) (callerA.deeper e1) (call (.ref 66) [.ref lh, .ref lt]) Q E s := by
  refine' call_ownC (binds := [("here", .ref lh), ("there", .ref lt)]) F X T ?k6 ?k7 ?k8 ?k9 ?kB ?kD ?_ ?c2 ?c3 ?c4
  case k6 => k_is
  case k7 => k_is
  case k8 => (simp only [depth_deeper, depth_caller]; decide)
  case k9 => exact BindsTo.of_eq rfl
  case kB => exact locs rfl
  case kD => decide +kernel
  case c2 => exact rfl
  case c3 => exact rfl
  case c4 => exact rfl
  intro h₁ tk cells F' N' Y' X' T'
  obtain ⟨oc, rfl, hoc⟩ := CellsAre.one Y'
  have F'' : Fr s.heap s.heap.objs.size h₁ (fun y => if y = "there" then some (.ref lt) else if y = "here" then some (.ref lh) else none) := F'
  have hoc' : oc.data = .cell none := hoc
  clear F' Y' hoc
  k_steps
  rename Fr _ _ _ _ => F2
  rename News _ _ _ _ => N2
  refine runs_spec F2 X' N2 T' (hlh.at fun o e => F2.keep _ o e) hih hnl (fun RH nH cH h2 tk2 F3 N3 hcH => ?_)
  try dsimp only
  k_steps
  refine runs_spec F3 X' N3 T' (hlt.at fun o e => F3.keep _ o e) hit hml (fun RT nT cT h3 tk3 F4 N4 hcT => ?_)
  try dsimp only
  k_steps
  rename Fr _ _ _ _ => F5
  rename News _ _ _ _ => N5
  rename_i D1 _ lD1 _ _ _ M _ lM Y _ lY D2 _ lD2 _ _ _ tk0 D3 _ lD3 _ _ _
  try clear F2
  try clear F3
  try clear F4
  try clear N2
  try clear N3
  try clear N4
  have hNH : NonNeg (runsOf ns) := runsOf_nonneg hn0
  have hNT : NonNeg (runsOf ms) := runsOf_nonneg hm0
  have hGH := runsOf_good ns
  have hGT := runsOf_good ms
  rw [sld_runs] at ret
  have hEH : (expand (runsOf ns)).length ≤ 24 := by rw [runsOf_expand]; exact hnl
  have hET : (expand (runsOf ms)).length ≤ 24 := by rw [runsOf_expand]; exact hml
  have hLH : (runsOf ns).length ≤ 24 := Nat.le_trans (runsOf_length ns) hnl
  have hLT : (runsOf ms).length ≤ 24 := Nat.le_trans (runsOf_length ms) hml
  generalize runsOf ns = H at *
  generalize runsOf ms = G at *
  have hMY : @LT.lt Nat _ M Y := lY.1
  have hDM : ∀ p ∈ (RT, listOf (cT.map fun p => Value.ref p.1).toArray nT) :: cT ++ ((RH, listOf (cH.map fun p => Value.ref p.1).toArray nH) :: cH ++ [(s.heap.objs.size + 1, oc)]), @LT.lt Nat _ p.1 M ∧ @LT.lt Nat _ p.1 Y := fun p hp => ⟨allLt_mem lM.2 p hp, allLt_mem lY.2.2 p hp⟩
  have hC0 : ∀ p ∈ (RT, listOf (cT.map fun p => Value.ref p.1).toArray nT) :: cT ++ ((RH, listOf (cH.map fun p => Value.ref p.1).toArray nH) :: cH), @Ne Nat p.1 (s.heap.objs.size + 1) := by
    intro p hp
    have hol : ∃ its, OList p.2 its := by
      simp only [List.mem_append, List.mem_cons, List.cons_append] at hp
      rcases hp with rfl | h | rfl | h
      · exact ⟨_, OList.of _ _⟩
      · exact cells_olist hcT p h
      · exact ⟨_, OList.of _ _⟩
      · exact cells_olist hcH p h
    obtain ⟨its, ho⟩ := hol
    refine News.ne (o := p.2) (o' := oc) N5 ?_ (by (first | walk_at "MEM" | simp)) (olist_ne_cell ho hoc')
    simp only [List.mem_append, List.mem_cons, List.cons_append] at hp ⊢
    rcases hp with h | h | h | h <;> simp [h]
  generalize hfz : (RT, listOf (cT.map fun p => Value.ref p.1).toArray nT) :: cT ++ ((RH, listOf (cH.map fun p => Value.ref p.1).toArray nH) :: cH) = fz
  have hsub : ∀ p ∈ fz, p ∈ (RT, listOf (cT.map fun p => Value.ref p.1).toArray nT) :: cT ++ ((RH, listOf (cH.map fun p => Value.ref p.1).toArray nH) :: cH ++ [(s.heap.objs.size + 1, oc)]) := by
    intro p hp
    rw [← hfz] at hp
    simp only [List.mem_append, List.mem_cons, List.cons_append] at hp ⊢
    rcases hp with h | h | h | h
    · exact .inl h
    · exact .inr (.inl h)
    · exact .inr (.inr (.inl h))
    · exact .inr (.inr (.inr (.inl h)))
  have hCne : ∀ p ∈ fz, @Ne Nat p.1 (s.heap.objs.size + 1) := hfz ▸ hC0
  have hMC : @LT.lt Nat _ (s.heap.objs.size + 1) M := (hDM (s.heap.objs.size + 1, oc) (by (first | walk_at "MEM" | simp))).1
  have hfzM : ∀ p ∈ fz, @LT.lt Nat _ p.1 M := fun p hp => (hDM p (hsub p hp)).1
  have N6 := News.sub (l' := (M, listOf #[] 0) :: (Y, listOf #[] 0) :: (s.heap.objs.size + 1, oc) :: fz) N5 (fun p hp => by
    simp only [List.mem_cons] at hp
    rcases hp with rfl | rfl | rfl | hp
    · simp
    · simp
    · simp
    · have := hsub p hp
      simp only [List.mem_cons, List.cons_append] at this ⊢
      exact .inr (.inr (.inr (.inr (.inr this)))))
  clear N5 hDM hC0
  have mH : (RH, listOf (cH.map fun p => Value.ref p.1).toArray nH) ∈ fz := by rw [← hfz]; simp
  have mT : (RT, listOf (cT.map fun p => Value.ref p.1).toArray nT) ∈ fz := by rw [← hfz]; simp
  have mcH : ∀ p ∈ cH, p ∈ fz := fun p hp => by rw [← hfz]; simp [hp]
  have mcT : ∀ p ∈ cT, p ∈ fz := fun p hp => by rw [← hfz]; simp [hp]
  have RH_at : ∀ {h : Heap} {news}, News s.heap s.heap.objs.size h news → (∀ p ∈ fz, p ∈ news) → RunsAt h RH H := fun {h news} N k => ⟨cH, News.ol N (k _ mH) (OList.of _ _), fun p hp => (N p (k p (mcH p hp))).1, hcH⟩
  have RT_at : ∀ {h : Heap} {news}, News s.heap s.heap.objs.size h news → (∀ p ∈ fz, p ∈ news) → RunsAt h RT G := fun {h news} N k => ⟨cT, News.ol N (k _ mT) (OList.of _ _), fun p hp => (N p (k p (mcT p hp))).1, hcT⟩
  obtain ⟨fsH, hiH, hpH⟩ := cells_pairs hcH
  have RH_l : ∀ {h : Heap} {news}, News s.heap s.heap.objs.size h news → (∀ p ∈ fz, p ∈ news) → h.IsList RH ((cH.map (·.1)).map Value.ref).toArray := fun {h news} N k => by rw [List.map_map]; exact News.ol N (k _ mH) (OList.of _ _)
  have RH_p : ∀ {h : Heap} {news}, News s.heap s.heap.objs.size h news → (∀ p ∈ fz, p ∈ news) → ∀ (j : Nat) (a : Addr) (v : Value), (cH.map (·.1))[j]? = some a → fsH[j]? = some v → ∃ v₂, h.IsList a #[v, v₂] := fun {h news} N k => hpH N fun p hp => k p (mcH p hp)
  have RH_o : ∀ {h : Heap} {news}, News s.heap s.heap.objs.size h news → (∀ p ∈ fz, p ∈ news) → ∀ a ∈ cH.map (·.1), ∃ o, h.get? a = some o := fun {h news} N k a ha => by
    obtain ⟨p, hp, rfl⟩ := List.mem_map.mp ha
    exact ⟨_, (N p (k p (mcH p hp))).1⟩
  have hlH : (cH.map (·.1)).length = H.length := by rw [List.length_map, cells_len hcH]
  obtain ⟨fsT, hiT, hpT⟩ := cells_pairs hcT
  have RT_l : ∀ {h : Heap} {news}, News s.heap s.heap.objs.size h news → (∀ p ∈ fz, p ∈ news) → h.IsList RT ((cT.map (·.1)).map Value.ref).toArray := fun {h news} N k => by rw [List.map_map]; exact News.ol N (k _ mT) (OList.of _ _)
  have RT_p : ∀ {h : Heap} {news}, News s.heap s.heap.objs.size h news → (∀ p ∈ fz, p ∈ news) → ∀ (j : Nat) (a : Addr) (v : Value), (cT.map (·.1))[j]? = some a → fsT[j]? = some v → ∃ v₂, h.IsList a #[v, v₂] := fun {h news} N k => hpT N fun p hp => k p (mcT p hp)
  have RT_o : ∀ {h : Heap} {news}, News s.heap s.heap.objs.size h news → (∀ p ∈ fz, p ∈ news) → ∀ a ∈ cT.map (·.1), ∃ o, h.get? a = some o := fun {h news} N k a ha => by
    obtain ⟨p, hp, rfl⟩ := List.mem_map.mp ha
    exact ⟨_, (N p (k p (mcT p hp))).1⟩
  have hlT : (cT.map (·.1)).length = G.length := by rw [List.length_map, cells_len hcT]
  clear hpH hpT hsub hfz mH mT mcH mcT hcH hcT lM lY
  generalize cH.map (·.1) = asH at *
  generalize cT.map (·.1) = asT at *
  refine While_inv2 (fun k m nl => ∀ P : Prop, (∀ (i j : Nat) (ti tj : Tok) (u1 u2 u3 u4 u5 : Option Value) (vm vy : List Value) (nm ny : Nat) (oc : Obj) (mi yi : List Int),
    m = (fun y => if y = ("level" : Str) then u1 else if y = "both" then u2 else if y = "peak" then u3 else if y = "top" then u4 else if y = "rises" then u5 else if y = "j" then some (.int (j : Int) tj) else if y = "i" then some (.int (i : Int) ti)
      else if y = "mine" then some (.ref M) else if y = "yours" then some (.ref Y) else if y = "here" then some (.ref RH) else if y = "there" then some (.ref RT) else none) →
    nl = (M, listOf vm.toArray nm) :: (Y, listOf vy.toArray ny) :: (s.heap.objs.size + 1, oc) :: fz → (∃ c, oc.data = .cell c) → i ≤ H.length → j ≤ G.length → k = H.length - i → IntsAre vm mi → IntsAre vy yi → mi.length ≤ i → yi.length ≤ j →
    sldR H G = (mi ++ (sldR (H.drop i) (G.drop j)).1, yi ++ (sldR (H.drop i) (G.drop j)).2) → P) → P) F5 N6 (n₀ := H.length) ?hJ ?turn PassesOwn.never
  case hJ =>
    refine fun _ k => k 0 0 tk0 (tk0 + 1) none none none none none [] [] 0 0 oc [] [] ?_ rfl ⟨_, hoc'⟩ (Nat.zero_le _) (Nat.zero_le _) rfl .nil .nil (Nat.le_refl _) (Nat.le_refl _) (by simp)
    funext y
    by_cases q1 : y = ("level" : Str)
    · rw [q1]; rfl
    by_cases q2 : y = ("both" : Str)
    · rw [q2]; rfl
    by_cases q3 : y = ("peak" : Str)
    · rw [q3]; rfl
    by_cases q4 : y = ("top" : Str)
    · rw [q4]; rfl
    by_cases q5 : y = ("rises" : Str)
    · rw [q5]; rfl
    by_cases q6 : y = ("here" : Str)
    · rw [q6]; rfl
    by_cases q7 : y = ("there" : Str)
    · rw [q7]; rfl
    simp only [q1, q2, q3, q4, q5, q6, q7, if_false]
    rfl
  clear F5 N6
  case turn =>
    rintro k m₁ nl h tk Fa Na hJ
    refine opq_while fun σ K Kd hK hKd => ?_
    refine hJ _ fun i j ti tj u1 u2 u3 u4 u5 vm vy nm ny oc mi yi hm₁ hnl₁ hc0 hi hj hk hvm hvy hml' hyl' heq => ?_
    obtain ⟨c0, hc0⟩ := hc0
    clear hJ
    subst hm₁ hnl₁
    k_steps
    refine rises_spec Fa X' Na T' (RH_at Na (fun p hp => by (first | walk_at "MEM" | simp [hp]))) hLH hi (fun Tu1 Da oDa kva tta na h1 tk1 Fb Nb hda hka loa => ?_)
    try dsimp only
    k_steps
    rename Fr _ _ _ _ => Fc
    rename News _ _ _ _ => Nc
    refine rises_spec Fc X' Nc T' (RT_at Nc (fun p hp => by (first | walk_at "MEM" | simp [hp]))) hLT hj (fun Tu2 Db oDb kvb ttb nb h2 tk2 Fd Nd hdb hkb lob => ?_)
    try dsimp only
    k_steps
    rename Fr _ _ _ _ => Fe
    rename News _ _ _ _ => Ne'
    simp only [List.cons_append, List.nil_append] at Ne'
    have nT2M : @Ne Nat Tu2 M := News.ne Ne' (.head _) (.tail _ (.tail _ (.tail _ (.tail _ (.head _))))) (tup_ne_list)
    have nT2Y : @Ne Nat Tu2 Y := News.ne Ne' (.head _) (.tail _ (.tail _ (.tail _ (.tail _ (.tail _ (.head _)))))) (tup_ne_list)
    have nDbM : @Ne Nat Db M := News.ne Ne' (.tail _ (.head _)) (.tail _ (.tail _ (.tail _ (.tail _ (.head _))))) (dict_ne_list hdb)
    have nDbY : @Ne Nat Db Y := News.ne Ne' (.tail _ (.head _)) (.tail _ (.tail _ (.tail _ (.tail _ (.tail _ (.head _)))))) (dict_ne_list hdb)
    have nT1M : @Ne Nat Tu1 M := News.ne Ne' (.tail _ (.tail _ (.head _))) (.tail _ (.tail _ (.tail _ (.tail _ (.head _))))) (tup_ne_list)
    have nT1Y : @Ne Nat Tu1 Y := News.ne Ne' (.tail _ (.tail _ (.head _))) (.tail _ (.tail _ (.tail _ (.tail _ (.tail _ (.head _)))))) (tup_ne_list)
    have nDaM : @Ne Nat Da M := News.ne Ne' (.tail _ (.tail _ (.tail _ (.head _)))) (.tail _ (.tail _ (.tail _ (.tail _ (.head _))))) (dict_ne_list hda)
    have nDaY : @Ne Nat Da Y := News.ne Ne' (.tail _ (.tail _ (.tail _ (.head _)))) (.tail _ (.tail _ (.tail _ (.tail _ (.tail _ (.head _)))))) (dict_ne_list hda)
    refine store_cell (pre := [(Tu2, _), (Db, oDb), (Tu1, _), (Da, oDa), (M, _), (Y, _)]) (post := fz) Fe Ne' ?_ hCne hc0 rfl rfl rfl (fun h' oc' Fg Ng hoc2 => ?_)
    · exact List.forall_mem_cons.mpr ⟨News.ne (o' := oc) Ne' (.head _) (by (first | walk_at "MEM" | simp)) (seq_ne_cell rfl hc0), List.forall_mem_cons.mpr ⟨News.ne (o' := oc) Ne' (.tail _ (.head _)) (by (first | walk_at "MEM" | simp)) (dict_ne_cell hdb hc0), List.forall_mem_cons.mpr ⟨News.ne (o' := oc) Ne' (.tail _ (.tail _ (.head _))) (by (first | walk_at "MEM" | simp)) (seq_ne_cell rfl hc0), List.forall_mem_cons.mpr ⟨News.ne (o' := oc) Ne' (.tail _ (.tail _ (.tail _ (.head _)))) (by (first | walk_at "MEM" | simp)) (dict_ne_cell hda hc0), List.forall_mem_cons.mpr ⟨News.ne (o' := oc) Ne' (.tail _ (.tail _ (.tail _ (.tail _ (.head _))))) (by (first | walk_at "MEM" | simp)) (seq_ne_cell rfl hc0), List.forall_mem_cons.mpr ⟨News.ne (o' := oc) Ne' (.tail _ (.tail _ (.tail _ (.tail _ (.tail _ (.head _)))))) (by (first | walk_at "MEM" | simp)) (seq_ne_cell rfl hc0), List.forall_mem_nil _⟩⟩⟩⟩⟩⟩
    try dsimp only
    k_steps
    rename Fr _ _ _ _ => Fh
    rename News _ _ _ _ => Nh
    simp only [List.cons_append, List.nil_append] at Nh
    have hka' := kvs_fst hka
    have hkb' := kvs_fst hkb
    have hkal : kva.length ≤ 1000 := by
      have h1 := congrArg List.length hka'
      have h2 := recs_length (-1) i (H.drop i)
      simp only [List.length_map, List.length_drop] at h1 h2
      exact ar_1000 h1 h2 hLH
    refine comp_keys_in rfl Fh Nh (.tail _ (.tail _ (.tail _ (.head _)))) hda loa (.tail _ (.head _)) hdb lob (.tail _ (.tail _ (.tail _ (.tail _ (.tail _ (.tail _ (.head _))))))) hoc2 hkal (fun Q' E' hq => nameX_L Fh rfl hq rfl rfl) rfl (fun _ => rfl) (by decide) (by decide) (fun Bo h3 vb tk3 nb' Fi Ni hBo hib => ?_) rfl rfl (by decide) rfl (by decide) rfl rfl (fun _ => rfl)
    clear Fh Nh
    have hkeyb : ∀ k : Int, (valueAt kvb k).isSome = true ↔ rankSet (-1) (G.drop j) k := fun k => kvs_at hkb k
    have hkeya : ∀ k : Int, k ∈ kva.map (·.1) ↔ rankSet (-1) (H.drop i) k := fun k => kvs_mem hka k
    cases vb with
    | nil =>
      have hno : ∀ x, rankSet (-1) (H.drop i) x → ¬ rankSet (-1) (G.drop j) x := by
        intro x hx hy
        have hm : x ∈ (kva.map (·.1)).filter fun k => (valueAt kvb k).isSome := List.mem_filter.mpr ⟨(hkeya x).mpr hx, (hkeyb x).mpr hy⟩
        generalize (kva.map (·.1)).filter (fun k => (valueAt kvb k).isSome) = ks at hib hm
        cases hib
        cases hm
      k_steps
      rename Fr _ _ _ _ => Fj
      refine rest_spec Fj X' Ni T' (RH_at Ni (fun p hp => by (first | walk_at "MEM" | simp [hp]))) hEH hLH hi (fun V1 v1 n1' h4 tk4 Fk Nk hv1 => ?_)
      try dsimp only
      k_steps
      have hfin := finish (H := H) (T := G) (i := i) (j := j) hNH hNT hno
      have hr1 := restOf_length (topOf (-1) (G.drop j)) (H.drop i)
      have hr2 := restOf_length (topOf (-1) (H.drop i)) (G.drop j)
      have hr3 := expand_drop_le H i
      have hr4 := expand_drop_le G j
      have hml2 := hvm.length
      have hyl2 := hvy.length
      have hv1l := hv1.length
      simp only [List.length_drop] at hr1 hr2
      refine add_lists Fk Nk (News.ol Nk (by (first | walk_at "MEM" | simp)) (OList.of vm.toArray nm)) (News.ol Nk (List.mem_cons_self) (OList.of _ _)) (fun h5 Fl Nl => ?_) (by rw [sizeLine_eq]; exact ar_sum hml2 hml' hi hLH hv1l hr1 hr3 hEH)
      try dsimp only
      k_steps
      rename Fr _ _ _ _ => Fm
      rename News _ _ _ _ => Nm
      refine rest_spec Fm X' Nm T' (RT_at Nm (fun p hp => by (first | walk_at "MEM" | simp [hp]))) hET hLT hj (fun V2 v2 n2' h6 tk6 Fn Nn hv2 => ?_)
      try dsimp only
      have hv2l := hv2.length
      refine add_lists Fn Nn (News.ol Nn (by (first | walk_at "MEM" | simp)) (OList.of vy.toArray ny)) (News.ol Nn (List.mem_cons_self) (OList.of _ _)) (fun h7 Fo No => ?_) (by rw [sizeLine_eq]; exact ar_sum hyl2 hyl' hj hLT hv2l hr2 hr4 hET)
      try dsimp only
      k_steps
      rename Fr _ _ _ _ => Fp
      rename News _ _ _ _ => Np
      obtain ⟨Fq, Nq⟩ := back F N Fp (News.sub (l' := [(_, ({ cls := .type "tuple", data := .seq #[.ref h4.objs.size, .ref h6.objs.size] 0 } : Obj)), (h4.objs.size, listOf (vm ++ v1).toArray 0), (h6.objs.size, listOf (vy ++ v2).toArray 0)]) Np (fun p hp => by
        simp only [List.mem_cons, List.not_mem_nil, or_false] at hp
        rcases hp with rfl | rfl | rfl
        · exact .head _
        · exact .tail _ (.tail _ (.tail _ (.head _)))
        · exact .tail _ (.head _)))
      refine hK _ _ _ ?_
      refine ret _ _ _ (vm ++ v1) (vy ++ v2) 0 0 0 _ _ Fq Nq ?_ ?_
      · rw [heq, hfin]
        exact hvm.append hv1
      · rw [heq, hfin]
        exact hvy.append hv2
    | cons v0 vb =>
      have hbl := hib.length
      have hfl := List.length_filter_le (fun k => (valueAt kvb k).isSome) (kva.map (·.1))
      have hbl2 : vb.length + 1 ≤ 1000 := by
        simp only [List.length_map, List.length_cons] at hbl hfl
        omega
      have hBl : h3.IsList Bo (v0 :: vb).toArray := News.ol Ni (.head _) (OList.of _ _)
      k_steps
      rename Fr _ _ _ _ => Fj
      refine min_list_N rfl Fj Ni hBl hib (by simp only [List.length_cons] at hbl; omega) (fun h4 lev tl tk4 Fk Nk hlm hlmin => ?_)
      try dsimp only
      clear hBl
      have hlm' := List.mem_filter.mp hlm
      obtain ⟨⟨k1, x1⟩, hpam, hk1⟩ := List.mem_map.mp hlm'.1
      obtain ⟨p, tp, hx1, hpr⟩ := kvs_val hka _ hpam
      obtain ⟨⟨k2, x2⟩, hpbm, hk2⟩ := List.mem_map.mp (valueAt_mem hlm'.2)
      obtain ⟨q, tq, hx2, hqr⟩ := kvs_val hkb _ hpbm
      dsimp only at hk1 hk2 hx1 hx2 hpr hqr
      subst hk1 hx1 hx2
      subst hk2
      have hva : valueAt kva k2 = some (.int (p : Int) tp) := valueAt_in hda hpam
      have hvb' : valueAt kvb k2 = some (.int (q : Int) tq) := valueAt_in hdb hpbm
      have hmin : ∀ x, rankSet (-1) (H.drop i) x → rankSet (-1) (G.drop j) x → k2 ≤ x := fun x h1 h2 => hlmin x (List.mem_filter.mpr ⟨(hkeya x).mpr h1, (hkeyb x).mpr h2⟩)
      obtain ⟨hmeet, hip, hpH, hjq, hqG⟩ := meet hNH hpr hqr hmin
      k_steps
      rename Fr _ _ _ _ => Fl
      rename News _ _ _ _ => Nl
      have hHl := RH_l Nl (fun p hp => by (first | walk_at "MEM" | simp [hp]))
      have hz4 : @LT.lt Nat _ M _ := Heap.lt_size (Nl (M, listOf vm.toArray nm) (by (first | walk_at "MEM" | simp))).1
      have hml2 := hvm.length
      have hyl2 := hvy.length
      have hzY : @LT.lt Nat _ Y _ := Heap.lt_size (Nl (Y, listOf vy.toArray ny) (by (first | walk_at "MEM" | simp))).1
      have hBM : @Ne Nat Bo M := Ne.symm (hBo (M, listOf vm.toArray nm) (by (first | walk_at "MEM" | simp)))
      have hBY : @Ne Nat Bo Y := Ne.symm (hBo (Y, listOf vy.toArray ny) (by (first | walk_at "MEM" | simp)))
      clear hBo
      refine ListComp_pairs rfl rfl (by decide) rfl (by decide) rfl rfl (by decide) (by decide) ?_ (fun _ => rfl)
      k_steps
      refine tail_dict Nl (d := Da) (o := oDa) (by (first | walk_at "MEM" | simp)) hda hva ?_ rfl
      try dsimp only
      k_steps
      rename Fr _ _ _ _ => Fm
      rename News _ _ _ _ => Nm
      rw [slice_refs _ _ _ hip (ar_le hlH hpH)] at Nm
      unfold Halt
      refine ⟨_, (asH.drop i).take (p - i), (fsH.drop i).take (p - i), rfl, News.ol Nm (.head _) (OList.of _ 0), ?_, ?_, pairs_cut (RH_p Nm (fun p hp => by (first | walk_at "MEM" | simp [hp]))) _ _, fun a ha => RH_o Nm (fun p hp => by (first | walk_at "MEM" | simp [hp])) a (List.mem_of_mem_drop (List.mem_of_mem_take ha)), fun D4 h'4 tk4 hDn4 hDp4 hDk4 => ?_⟩
      · exact cut_1000 hlH hLH
      · exact cut_len (hiH.length.trans (List.length_map ..)) hlH
      have Fm' := Fm.keeps hDk4
      have Nm' := Nm.keeps hDk4
      clear Fm Nm
      obtain ⟨n4, hDg4⟩ := hDp4
      have hfl4 : ((fsH.drop i).take (p - i)).length ≤ p - i := List.length_take_le _ _
      try dsimp only at Nm'
      refine iadd_led (pre := [(_, _), (Bo, _), (Tu2, _), (Db, _), (Tu1, _), (Da, _)]) (post := (Y, _) :: (s.heap.objs.size + 1, _) :: fz) Fm' Nm' ?_ ?_ hDg4 (by simp only [List.size_toArray]; exact ar_cut hml2 hml' hip hpH hLH hfl4) (fun h''4 n''4 Fo No => ?_)
      · exact List.forall_mem_cons.mpr ⟨Nat.ne_of_gt (Nat.lt_succ_of_lt hz4), List.forall_mem_cons.mpr ⟨hBM, List.forall_mem_cons.mpr ⟨nT2M, List.forall_mem_cons.mpr ⟨nDbM, List.forall_mem_cons.mpr ⟨nT1M, List.forall_mem_cons.mpr ⟨nDaM, List.forall_mem_nil _⟩⟩⟩⟩⟩⟩
      · exact List.forall_mem_cons.mpr ⟨Nat.ne_of_gt hMY, List.forall_mem_cons.mpr ⟨Nat.ne_of_lt hMC, fun p hp => Nat.ne_of_lt (hfzM p hp)⟩⟩
      try dsimp only
      k_steps
      rename Fr _ _ _ _ => Fp
      rename News _ _ _ _ => Np
      simp only [List.cons_append, List.nil_append] at Np
      have hTl := RT_l Np (fun p hp => by (first | walk_at "MEM" | simp [hp]))
      have hz5 : @LT.lt Nat _ Y _ := Heap.lt_size (Np (Y, listOf vy.toArray ny) (by (first | walk_at "MEM" | simp))).1
      refine ListComp_pairs rfl rfl (by decide) rfl (by decide) rfl rfl (by decide) (by decide) ?_ (fun _ => rfl)
      k_steps
      refine tail_dict Np (d := Db) (o := oDb) (by (first | walk_at "MEM" | simp)) hdb hvb' ?_ rfl
      try dsimp only
      k_steps
      rename Fr _ _ _ _ => Fq
      rename News _ _ _ _ => Nq
      rw [slice_refs _ _ _ hjq (ar_le hlT hqG)] at Nq
      unfold Halt
      refine ⟨_, (asT.drop j).take (q - j), (fsT.drop j).take (q - j), rfl, News.ol Nq (.head _) (OList.of _ 0), ?_, ?_, pairs_cut (RT_p Nq (fun p hp => by (first | walk_at "MEM" | simp [hp]))) _ _, fun a ha => RT_o Nq (fun p hp => by (first | walk_at "MEM" | simp [hp])) a (List.mem_of_mem_drop (List.mem_of_mem_take ha)), fun D5 h'5 tk5 hDn5 hDp5 hDk5 => ?_⟩
      · exact cut_1000 hlT hLT
      · exact cut_len (hiT.length.trans (List.length_map ..)) hlT
      have Fq' := Fq.keeps hDk5
      have Nq' := Nq.keeps hDk5
      clear Fq Nq
      obtain ⟨n5, hDg5⟩ := hDp5
      have hfl5 : ((fsT.drop j).take (q - j)).length ≤ q - j := List.length_take_le _ _
      try dsimp only at Nq'
      refine iadd_led (pre := [(_, _), (_, _), (Bo, _), (Tu2, _), (Db, _), (Tu1, _), (Da, _), (M, _)]) (post := (s.heap.objs.size + 1, _) :: fz) Fq' Nq' ?_ ?_ hDg5 (by simp only [List.size_toArray]; exact ar_cut hyl2 hyl' hjq hqG hLT hfl5) (fun h''5 n''5 Fr1 Nr1 => ?_)
      · exact List.forall_mem_cons.mpr ⟨Nat.ne_of_gt (Nat.lt_succ_of_lt hz5), List.forall_mem_cons.mpr ⟨Nat.ne_of_gt (Nat.lt_succ_of_lt hzY), List.forall_mem_cons.mpr ⟨hBY, List.forall_mem_cons.mpr ⟨nT2Y, List.forall_mem_cons.mpr ⟨nDbY, List.forall_mem_cons.mpr ⟨nT1Y, List.forall_mem_cons.mpr ⟨nDaY, List.forall_mem_cons.mpr ⟨Nat.ne_of_lt hMY, List.forall_mem_nil _⟩⟩⟩⟩⟩⟩⟩⟩
      · exact List.forall_mem_cons.mpr ⟨Nat.ne_of_lt (Nat.lt_trans hMC hMY), fun p hp => Nat.ne_of_lt (Nat.lt_trans (hfzM p hp) hMY)⟩
      try dsimp only
      k_steps
      rename Fr _ _ _ _ => Ft
      rename News _ _ _ _ => Nt
      simp only [List.cons_append, List.nil_append] at Nt
      refine tail_dict Nt (d := Da) (o := oDa) (by (first | walk_at "MEM" | simp)) hda hva ?_ rfl
      try dsimp only
      k_steps
      rename Fr _ _ _ _ => Fu
      rename News _ _ _ _ => Nu
      refine tail_dict Nu (d := Db) (o := oDb) (by (first | walk_at "MEM" | simp)) hdb hvb' ?_ rfl
      try dsimp only
      k_steps
      rename Fr _ _ _ _ => Fv
      rename News _ _ _ _ => Nv
      rw [List.append_toArray, List.append_toArray] at Nv
      have N9 := News.sub (l' := (M, listOf (vm ++ (fsH.drop i).take (p - i)).toArray n''4) :: (Y, listOf (vy ++ (fsT.drop j).take (q - j)).toArray n''5) :: (s.heap.objs.size + 1, oc') :: fz) Nv (by walk_at "SUB")
      rw [show ((p : Int) + 1) = ((p + 1 : Nat) : Int) from rfl, show ((q : Int) + 1) = ((q + 1 : Nat) : Int) from rfl] at Fv
      have him := (hiH.drop i).take (p - i)
      have hit' := (hiT.drop j).take (q - j)
      rw [← List.map_drop, ← List.map_take] at him hit'
      rename_i tkx Dx _ lx _ _ _
      try dsimp only
      refine hK _ _ _ ?_
      refine ⟨_, _, _, _, H.length - (p + 1), rfl, Fv, N9, ar_dec hk hip hpH, fun _ k => k (p + 1) (q + 1) (tkx + 1 + 1) (tkx + 1 + 1 + 1 + 1 + 1) (some (.int k2 tl)) (some (.ref Bo)) (some (.int (topOf (-1) (G.drop j)) ttb)) (some (.int (topOf (-1) (H.drop i)) tta)) (some (.ref Da)) (vm ++ (fsH.drop i).take (p - i)) (vy ++ (fsT.drop j).take (q - j)) n''4 n''5 oc' (mi ++ ((H.drop i).take (p - i)).map (·.1)) (yi ++ ((G.drop j).take (q - j)).map (·.1)) ?_ rfl ⟨_, hoc2⟩ hpH hqG rfl (hvm.append him) (hvy.append hit') ?_ ?_ ?_⟩
      · funext y
        by_cases q1 : y = ("level" : Str)
        · rw [q1]; rfl
        by_cases q2 : y = ("both" : Str)
        · rw [q2]; rfl
        by_cases q3 : y = ("peak" : Str)
        · rw [q3]; rfl
        by_cases q4 : y = ("top" : Str)
        · rw [q4]; rfl
        by_cases q5 : y = ("rises" : Str)
        · rw [q5]; rfl
        by_cases q6 : y = ("i" : Str)
        · rw [q6]; rfl
        by_cases q7 : y = ("j" : Str)
        · rw [q7]; rfl
        by_cases q8 : y = ("yours" : Str)
        · rw [q8]; rfl
        by_cases q9 : y = ("mine" : Str)
        · rw [q9]; rfl
        simp only [q1, q2, q3, q4, q5, q6, q7, q8, q9, if_false]
      · rw [List.length_append, List.length_map, List.length_take]; exact ar_step hml' hip
      · rw [List.length_append, List.length_map, List.length_take]; exact ar_step hyl' hjq
      · rw [heq, hmeet, List.append_assoc, List.append_assoc]
end
end
section
open PySem PySem.W PyProof.Rows PyProof.V PySem.Spec PySem.Calls
/-- comparisons of faces -/
structure FaceOps (w : World) (Ok : Heap → Prop) (IsFace : Int → Value → Prop) : Prop where
  lt : ∀ (A : Around) (E : Value → Shared → Prop) (s : Shared) (r q : Int) (v u : Value) (Q : Value → Shared → Prop), A.units ≤ 100 → Ok s.heap → IsFace r v → IsFace q u →
    (∀ h' tk, (∀ b o, s.heap.get? b = some o → h'.get? b = some o) → Q (.bool (decide (r < q))) { s with heap := h', toks := tk }) → wpAny (model PG w) A (compareOp .Lt v u) Q E s
  gt : ∀ (A : Around) (E : Value → Shared → Prop) (s : Shared) (r q : Int) (v u : Value) (Q : Value → Shared → Prop), A.units ≤ 100 → Ok s.heap → IsFace r v → IsFace q u →
    (∀ h' tk, (∀ b o, s.heap.get? b = some o → h'.get? b = some o) → Q (.bool (decide (q < r))) { s with heap := h', toks := tk }) → wpAny (model PG w) A (compareOp .Gt v u) Q E s
  eq : ∀ (A : Around) (E : Value → Shared → Prop) (s : Shared) (r q : Int) (v u : Value) (Q : Value → Shared → Prop), A.units ≤ 100 → Ok s.heap → IsFace r v → IsFace q u →
    (∀ h' tk, (∀ b o, s.heap.get? b = some o → h'.get? b = some o) → Q (.bool (decide (r = q))) { s with heap := h', toks := tk }) → wpAny (model PG w) A (compareOp .Eq v u) Q E s
  same : ∀ (A : Around) (s : Shared) (r : Int) (v u : Value), Ok s.heap → IsFace r v → IsFace r u → SeqAt.EqAt A s v u true
/-- a sequence of faces, as the helper reads it -/
structure SeqOps (w : World) (Ok : Heap → Prop) (IsFace : Int → Value → Prop) (x : Value) (ns : List Int) : Prop where
  item : ∀ (A : Around) (E : Value → Shared → Prop) (s : Shared) (i : Nat) (r : Int) (t : Tok) (n1 n2 : Str) (p1 p2 : Pos) (Q : Value → Shared → Prop), Ok s.heap → ns[i]? = some r →
    (∀ v tk, IsFace r v → Q v { s with toks := tk }) → wpAny (model PG w) A (subscriptTail (.Name n1 p1) (.Name n2 p2) x (.int (i : Int) t)) Q E s
  out : ∀ (A : Around) (E : Value → Shared → Prop) (s : Shared) (i : Nat) (c : Value) (t : Tok) (n1 n2 : Str) (p1 p2 : Pos) (Q : Value → Shared → Prop), Ok s.heap → Handles A s.heap c → ns.length ≤ i → i ≤ 1000 →
    (∀ h' tk e, ExcNew s.heap h' e "IndexError" c → E (.ref e) { s with heap := h', toks := tk }) → wpAny (model PG w) A (subscriptTail (.Name n1 p1) (.Name n2 p2) x (.int (i : Int) t)) Q E s
  slice : ∀ (A : Around) (E : Value → Shared → Prop) (s : Shared) (i : Nat) (t : Tok) (n1 n2 : Str) (p1 p2 p3 : Pos) (Q : Value → Shared → Prop), Ok s.heap → i ≤ ns.length → ns.length ≤ 24 →
    (∀ h' tk v, (∀ b o, s.heap.get? b = some o → h'.get? b = some o) → RestAt IsFace (ns.drop i) v h' → Q v { s with heap := h', toks := tk }) →
    wpAny (model PG w) A (subscriptTail (.Name n1 p1) (.Slice (some (.Name n2 p2)) none none p3) x (.ref s.heap.objs.size)) Q E { s with heap := s.heap.push { cls := .type "slice", data := .fields #[.int (i : Int) t, .none, .none] } }
theorem paired_append {α β : Type} {P : α → β → Prop} {a c : List α} {b d : List β} (h1 : Paired P a b) (h2 : Paired P c d) : Paired P (a ++ c) (b ++ d) := by
  induction h1 with
  | nil => exact h2
  | cons x _ ih => exact .cons x ih
theorem try_split {A : Around} {E R : Value → Shared → Prop} {s : Shared} {env : Env} {prog : Program} {w : World} {body : List Stmt} {h₀ : ExceptHandler} {hs : List ExceptHandler} {pos : Pos} {Q : Flow → Shared → Prop}
    (hbody : wpAny (model prog w) A (execs body env) (fun f s₁ => match f with | .next => wpAny (model prog w) A (execs [] env) Q E s₁ | f => Q f s₁) R s)
    (hcatch : ∀ e s₁, R e s₁ → wpAny (model prog w) A (noteFrame e env) (fun _ s₂ => wpAny (model prog w) A (setFlight e none) (fun _ s₃ => wpAny (model prog w) A (handleBy e env (h₀ :: hs)) Q E s₃) E s₂) E s₁) :
    wpAny (model prog w) A (exec (.Try body (h₀ :: hs) [] [] pos) env) Q E s :=
  wpAny_Try_except (wpAny_mono hbody (fun _ _ x => x) hcatch)

theorem finally_split {A : Around} {E R : Value → Shared → Prop} {s : Shared} {env : Env} {prog : Program} {w : World} {body : List Stmt} {f₀ : Stmt} {fs : List Stmt} {pos : Pos} {Q : Flow → Shared → Prop}
    (hbody : wpAny (model prog w) A (execs body env)
          (fun f s₁ => match f with
            | .next => wpAny (model prog w) A (execs [] env)
                (fun f' s₂ => wpAny (model prog w) A (execs (f₀ :: fs) env) (fun g s' => match g with | .next => Q f' s' | g => Q g s') (notedBy (model prog w) A env (cameBackBy (model prog w) A env E)) s₂) (FinallyRaised prog w A E env (f₀ :: fs) Q) s₁
            | f => wpAny (model prog w) A (execs (f₀ :: fs) env) (fun g s' => match g with | .next => Q f s' | g => Q g s') (notedBy (model prog w) A env (cameBackBy (model prog w) A env E)) s₁) R s)
    (hraised : ∀ e s₁, R e s₁ → wpAny (model prog w) A (noteFrame e env) (fun _ s₂ => FinallyRaised prog w A E env (f₀ :: fs) Q e s₂) (FinallyRaised prog w A E env (f₀ :: fs) Q) s₁) :
    wpAny (model prog w) A (exec (.Try body [] [] (f₀ :: fs) pos) env) Q E s :=
  wpAny_Try_finally (wpAny_mono hbody (fun _ _ x => x) hraised)
/-- what an own raise needs, at any mark -/
def PassAt (w : World) (A : Around) (env : Env) (R : Value → Shared → Prop) : Prop :=
  ∀ A' B : Around, A'.frames = A.frames → ∀ e s', R e s' → notedBy (model PG w) A' env (cameBackBy (model PG w) B env R) e s'
theorem try_splitK {A : Around} {E R : Value → Shared → Prop} {s : Shared} {env : Env} {w : World} {body : List Stmt} {h₀ : ExceptHandler} {hs : List ExceptHandler} {pos : Pos} {Q : Flow → Shared → Prop} (hP : PassAt w A env R)
    (hbody : ∀ (K : Flow → Shared → Prop) (R' : Value → Shared → Prop), (∀ f s₁, (match f with | .next => wpAny (model PG w) A (execs [] env) Q E s₁ | f => Q f s₁) → K f s₁) → (∀ e s₁, R e s₁ → R' e s₁) → PassAt w A env R' →
      wpAny (model PG w) A (execs body env) K R' s)
    (hcatch : ∀ e s₁, R e s₁ → wpAny (model PG w) A (noteFrame e env) (fun _ s₂ => wpAny (model PG w) A (setFlight e none) (fun _ s₃ => wpAny (model PG w) A (handleBy e env (h₀ :: hs)) Q E s₃) E s₂) E s₁) :
    wpAny (model PG w) A (exec (.Try body (h₀ :: hs) [] [] pos) env) Q E s :=
  try_split (hbody _ _ (fun _ _ x => x) (fun _ _ x => x) hP) hcatch
theorem finally_splitK {A : Around} {E R : Value → Shared → Prop} {s : Shared} {env : Env} {w : World} {body : List Stmt} {f₀ : Stmt} {fs : List Stmt} {pos : Pos} {Q : Flow → Shared → Prop} (hP : PassAt w A env R)
    (hbody : ∀ (K : Flow → Shared → Prop) (R' : Value → Shared → Prop),
          (∀ f s₁, (match f with
            | .next => wpAny (model PG w) A (execs [] env)
                (fun f' s₂ => wpAny (model PG w) A (execs (f₀ :: fs) env) (fun g s' => match g with | .next => Q f' s' | g => Q g s') (notedBy (model PG w) A env (cameBackBy (model PG w) A env E)) s₂) (FinallyRaised PG w A E env (f₀ :: fs) Q) s₁
            | f => wpAny (model PG w) A (execs (f₀ :: fs) env) (fun g s' => match g with | .next => Q f s' | g => Q g s') (notedBy (model PG w) A env (cameBackBy (model PG w) A env E)) s₁) → K f s₁) → (∀ e s₁, R e s₁ → R' e s₁) → PassAt w A env R' →
          wpAny (model PG w) A (execs body env) K R' s)
    (hraised : ∀ e s₁, R e s₁ → wpAny (model PG w) A (noteFrame e env) (fun _ s₂ => FinallyRaised PG w A E env (f₀ :: fs) Q e s₂) (FinallyRaised PG w A E env (f₀ :: fs) Q) s₁) :
    wpAny (model PG w) A (exec (.Try body [] [] (f₀ :: fs) pos) env) Q E s :=
  finally_split (hbody _ _ (fun _ _ x => x) (fun _ _ x => x) hP) hraised
theorem sld_lt {ns ms zs : List Int} {i j : Nat} (hi : i < ns.length) (hj : j < ms.length) (h : ns[i] < ms[j]) (hz : dropEq ns[i] (ns.drop (i + 1)) = zs) :
    sld (ns.drop i) (ms.drop j) = (ns[i] :: (sld zs (ms.drop j)).1, (sld zs (ms.drop j)).2) := by
  rw [List.drop_eq_getElem_cons hi, List.drop_eq_getElem_cons hj, sld_cons, if_pos h, hz]
theorem sld_gt {ns ms zs : List Int} {i j : Nat} (hi : i < ns.length) (hj : j < ms.length) (h : ms[j] < ns[i]) (hz : dropEq ms[j] (ms.drop (j + 1)) = zs) :
    sld (ns.drop i) (ms.drop j) = ((sld (ns.drop i) zs).1, ms[j] :: (sld (ns.drop i) zs).2) := by
  rw [List.drop_eq_getElem_cons hi, List.drop_eq_getElem_cons hj, sld_cons, if_neg (by omega), if_pos h, hz]
theorem sld_eq {ns ms zs ys : List Int} {i j : Nat} (hi : i < ns.length) (hj : j < ms.length) (h : ns[i] = ms[j]) (hz : dropEq ns[i] (ns.drop (i + 1)) = zs) (hy : dropEq ms[j] (ms.drop (j + 1)) = ys) :
    sld (ns.drop i) (ms.drop j) = sld zs ys := by
  rw [List.drop_eq_getElem_cons hi, List.drop_eq_getElem_cons hj, sld_cons, if_neg (by omega), if_neg (by omega), hz, hy]
theorem dropEq_step {ns : List Int} {e : Int} {i : Nat} (hi : i < ns.length) (h : ns[i] = e) : dropEq e (ns.drop i) = dropEq e (ns.drop (i + 1)) := by
  rw [List.drop_eq_getElem_cons hi]
  unfold dropEq
  rw [List.dropWhile_cons, if_pos (by simp [h])]
theorem dropEq_stop {ns : List Int} {e : Int} {i : Nat} (hi : i < ns.length) (h : ns[i] ≠ e) : dropEq e (ns.drop i) = ns.drop i := by
  rw [List.drop_eq_getElem_cons hi]
  unfold dropEq
  rw [List.dropWhile_cons, if_neg (by simp [h])]

/-- how far the merge is -/
structure Merge (IsFace : Int → Value → Prop) (x y : Value) (ns ms : List Int) (Mi Un : Addr) (fz : List (Addr × Obj)) (i j : Nat) (m : Str → Option Value) (nl : List (Addr × Obj)) (r : List Int × List Int) : Prop where
  lei : i ≤ ns.length
  lej : j ≤ ms.length
  ex : ∃ (ti tj : Tok) (u1 u2 : Option Value) (vm vu : List Value) (nm nu : Nat) (mi ui : List Int),
    m = (fun z => if z = ("a" : Str) then u1 else if z = "e" then u2 else if z = "unexpected" then some (.ref Un) else if z = "missing" then some (.ref Mi) else if z = "j" then some (.int (j : Int) tj) else if z = "i" then some (.int (i : Int) ti) else if z = "actual" then some y else if z = "expected" then some x else none) ∧
    nl = (Un, W.listOf vu.toArray nu) :: (Mi, W.listOf vm.toArray nm) :: fz ∧ Paired IsFace mi vm ∧ Paired IsFace ui vu ∧ mi.length ≤ i ∧ ui.length ≤ j ∧
    sld ns ms = (mi ++ r.1, ui ++ r.2)
theorem canon_of {f g : Str → Option Value} (h1 : f "a" = g "a") (h2 : f "e" = g "e") (h3 : f "i" = g "i") (h4 : f "j" = g "j") (h5 : f "unexpected" = g "unexpected") (h6 : f "missing" = g "missing") (h : ∀ z : Str, ¬ z = "a" → ¬ z = "e" → ¬ z = "i" → ¬ z = "j" → ¬ z = "unexpected" → ¬ z = "missing" → f z = g z) : f = g := by
  funext z
  by_cases q1 : z = ("a" : Str)
  · rw [q1]; exact h1
  by_cases q2 : z = "e"
  · rw [q2]; exact h2
  by_cases q3 : z = "i"
  · rw [q3]; exact h3
  by_cases q4 : z = "j"
  · rw [q4]; exact h4
  by_cases q5 : z = "unexpected"
  · rw [q5]; exact h5
  by_cases q6 : z = "missing"
  · rw [q6]; exact h6
  exact h z q1 q2 q3 q4 q5 q6
theorem Merge.of {IsFace : Int → Value → Prop} {x y : Value} {ns ms : List Int} {Mi Un : Addr} {fz : List (Addr × Obj)} {i j : Nat} {m : Str → Option Value} {nl : List (Addr × Obj)} {r : List Int × List Int} (lei : i ≤ ns.length) (lej : j ≤ ms.length)
    (ti tj : Tok) (u1 u2 : Option Value) (vm vu : List Value) (nm nu : Nat) (mi ui : List Int)
    (hm : m = (fun z => if z = ("a" : Str) then u1 else if z = "e" then u2 else if z = "unexpected" then some (.ref Un) else if z = "missing" then some (.ref Mi) else if z = "j" then some (.int (j : Int) tj) else if z = "i" then some (.int (i : Int) ti) else if z = "actual" then some y else if z = "expected" then some x else none))
    (hn : nl = (Un, W.listOf vu.toArray nu) :: (Mi, W.listOf vm.toArray nm) :: fz) (h1 : Paired IsFace mi vm) (h2 : Paired IsFace ui vu) (h3 : mi.length ≤ i) (h4 : ui.length ≤ j) (h5 : sld ns ms = (mi ++ r.1, ui ++ r.2)) :
    Merge IsFace x y ns ms Mi Un fz i j m nl r := ⟨lei, lej, ti, tj, u1, u2, vm, vu, nm, nu, mi, ui, hm, hn, h1, h2, h3, h4, h5⟩
theorem Merge.elim {IsFace : Int → Value → Prop} {x y : Value} {ns ms : List Int} {Mi Un : Addr} {fz : List (Addr × Obj)} {i j : Nat} {m : Str → Option Value} {nl : List (Addr × Obj)} {r : List Int × List Int} {P : Prop}
    (G : Merge IsFace x y ns ms Mi Un fz i j m nl r)
    (k : ∀ (_ : i ≤ ns.length) (_ : j ≤ ms.length) (ti tj : Tok) (u1 u2 : Option Value) (vm vu : List Value) (nm nu : Nat) (mi ui : List Int),
      m = (fun z => if z = ("a" : Str) then u1 else if z = "e" then u2 else if z = "unexpected" then some (.ref Un) else if z = "missing" then some (.ref Mi) else if z = "j" then some (.int (j : Int) tj) else if z = "i" then some (.int (i : Int) ti) else if z = "actual" then some y else if z = "expected" then some x else none) →
      nl = (Un, W.listOf vu.toArray nu) :: (Mi, W.listOf vm.toArray nm) :: fz → Paired IsFace mi vm → Paired IsFace ui vu → mi.length ≤ i → ui.length ≤ j → sld ns ms = (mi ++ r.1, ui ++ r.2) → P) : P := by
  obtain ⟨hi, hj, ti, tj, u1, u2, vm, vu, nm, nu, mi, ui, hm, hn, h1, h2, h3, h4, h5⟩ := G
  exact k hi hj ti tj u1 u2 vm vu nm nu mi ui hm hn h1 h2 h3 h4 h5
/-- how far an inner loop is -/
def Inner (ns : List Int) (e : Int) (i : Nat) (nl0 : List (Addr × Obj)) (f : Nat → Tok → Str → Option Value) (k : Nat) (mm : Str → Option Value) (nl : List (Addr × Obj)) : Prop :=
  ∃ (i' : Nat) (ti' : Tok), nl = nl0 ∧ i + 1 ≤ i' ∧ i' ≤ ns.length ∧ dropEq e (ns.drop (i + 1)) = dropEq e (ns.drop i') ∧ k = ns.length - i' ∧ mm = f i' ti'
theorem Inner.of {ns : List Int} {e : Int} {i : Nat} {nl0 : List (Addr × Obj)} {f : Nat → Tok → Str → Option Value} {k : Nat} {mm : Str → Option Value} {nl : List (Addr × Obj)} (i' : Nat) (ti' : Tok) (h1 : nl = nl0) (h2 : i + 1 ≤ i') (h3 : i' ≤ ns.length)
    (h4 : dropEq e (ns.drop (i + 1)) = dropEq e (ns.drop i')) (h5 : k = ns.length - i') (h6 : mm = f i' ti') : Inner ns e i nl0 f k mm nl := ⟨i', ti', h1, h2, h3, h4, h5, h6⟩
theorem Inner.elim {ns : List Int} {e : Int} {i : Nat} {nl0 : List (Addr × Obj)} {f : Nat → Tok → Str → Option Value} {k : Nat} {mm : Str → Option Value} {nl : List (Addr × Obj)} {P : Prop} (G : Inner ns e i nl0 f k mm nl)
    (q : ∀ (i' : Nat) (ti' : Tok), nl = nl0 → i + 1 ≤ i' → i' ≤ ns.length → dropEq e (ns.drop (i + 1)) = dropEq e (ns.drop i') → k = ns.length - i' → mm = f i' ti' → P) : P := by
  obtain ⟨i', ti', h1, h2, h3, h4, h5, h6⟩ := G
  exact q i' ti' h1 h2 h3 h4 h5 h6
theorem ar_in {i n : Nat} (h1 : i ≤ n) (h2 : ¬ i < n) : i = n := by omega
theorem ar_big {i n : Nat} (h1 : i = n) (h2 : n ≤ 24) : i ≤ 1000 := by omega
theorem ar_rest {v l i n : Nat} (h1 : l = v) (h2 : l ≤ i) (h3 : i ≤ n) (h4 : n ≤ 24) : v + (n - i) ≤ 1000 := by omega
theorem ar_one {v l i n : Nat} (h1 : l = v) (h2 : l ≤ i) (h3 : i ≤ n) (h4 : n ≤ 24) : v ≤ 16777216 := by omega
theorem ar_dn {k n i : Nat} (hk : k = n - i) (h : i < n) : n - (i + 1) < k := by omega
theorem ar_d1 {k n i i' r : Nat} (hk : k = (n - i) + r) (h1 : i + 1 ≤ i') (h2 : i < n) : (n - i') + r < k := by omega
theorem ar_d2 {k n j j' l : Nat} (hk : k = l + (n - j)) (h1 : j + 1 ≤ j') (h2 : j < n) : l + (n - j') < k := by omega
theorem ar_d3 {k n m i i' j j' : Nat} (hk : k = (n - i) + (m - j)) (h1 : i + 1 ≤ i') (h2 : i < n) (h3 : j + 1 ≤ j') : (n - i') + (m - j') < k := by omega
theorem ar_sn {l : List Int} {a : Int} {i i' : Nat} (h : l.length ≤ i) (h1 : i + 1 ≤ i') : (l ++ [a]).length ≤ i' := by
  rw [List.length_append, List.length_singleton]; omega
theorem ar_wk {l i i' : Nat} (h : l ≤ i) (h1 : i + 1 ≤ i') : l ≤ i' := by omega

/-- a raise of the helper's own frame, noted or not -/
def Raised (base : Heap) (L' L : Addr) (oL : Obj) (P : (Str → Option Value) → List (Addr × Obj) → List (Addr × Obj) → Prop) (s : Shared) (e : Value) (s₁ : Shared) : Prop :=
  ∃ (a : Addr) (c : Value) (mm : Str → Option Value) (ex nl : List (Addr × Obj)) (sl : Array (Option Value)) (h' : Heap) (tk' : Nat), e = .ref a ∧ s₁ = { s with heap := h', toks := tk' } ∧ P mm nl ex ∧
    ((c = .none ∧ ex = []) ∨ ∃ e1 o1 vs1, c = .ref e1 ∧ (e1, o1) ∈ ex ∧ o1.data = .fields vs1 ∧ vs1[2]? = some .none) ∧ (∀ p ∈ ex, ∃ vs, p.2.data = .fields vs) ∧ (∀ p ∈ ex ++ nl, p.1 ≠ L) ∧
    ((∃ h, ExcNew h h' a "IndexError" c ∧ Fr base L' h mm ∧ News base L' h (ex ++ nl ++ [(L, { oL with slots := sl })])) ∨
      ∃ T oe oT, FlyObj oe oT T "IndexError" (rawInt L') c ∧ Fr base L' h' mm ∧ News base L' h' ((a, oe) :: (T, oT) :: (ex ++ nl ++ [(L, { oL with slots := sl })])) ∧ a ≠ T ∧ ∀ p ∈ ex ++ nl ++ [(L, ({ oL with slots := sl } : Obj))], p.1 ≠ T ∧ p.1 ≠ a)
theorem depth_mark (A : Around) (v : Option Value) : (A.mark v).depth = A.depth := rfl
theorem frames_mark (A : Around) (v : Option Value) {l : Option (List Env)} (h : A.frames = l) : (A.mark v).frames = l := h
theorem frs_slots {env0 : Env} {L : Addr} {oL : Obj} (Fs : TI.Frs [env0] [(L, oL)]) (sl : Array (Option Value)) : TI.Frs [env0] [(L, { oL with slots := sl })] := TI.Frs.up (b := [(L, { oL with slots := sl })]) Fs ⟨rfl, ⟨sl, rfl⟩, trivial⟩
/-- noted: what the frame's own code does next sees the noted state alone -/
theorem raised_noted {w : World} {base : Heap} {L' L : Addr} {oL : Obj} {P : (Str → Option Value) → List (Addr × Obj) → List (Addr × Obj) → Prop} {s : Shared} {env0 : Env} {name : Str} {scope : Scope} {a : Addr} {cd : Value} {Q : Unit → Shared → Prop} {E : Value → Shared → Prop}
    (A' : Around) (hfr' : A'.frames = some [envOf name scope L' a cd, env0]) (Fs : TI.Frs [env0] [(L, oL)]) (hk : scope.kind = .function) {e : Value} {s' : Shared} (hr : Raised base L' L oL P s e s')
    (k : ∀ (a : Addr) (c : Value) (mm : Str → Option Value) (ex nl : List (Addr × Obj)) (sl : Array (Option Value)) (h' : Heap) (tk' : Nat) (T : Addr) (oe oT : Obj), e = .ref a → P mm nl ex →
      ((c = .none ∧ ex = []) ∨ ∃ e1 o1 vs1, c = .ref e1 ∧ (e1, o1) ∈ ex ∧ o1.data = .fields vs1 ∧ vs1[2]? = some .none) → (∀ p ∈ ex, ∃ vs, p.2.data = .fields vs) → (∀ p ∈ ex ++ nl, p.1 ≠ L) →
      FlyObj oe oT T "IndexError" (rawInt L') c → Fr base L' h' mm → News base L' h' ((a, oe) :: (T, oT) :: (ex ++ nl ++ [(L, { oL with slots := sl })])) → a ≠ T → (∀ p ∈ ex ++ nl ++ [(L, ({ oL with slots := sl } : Obj))], p.1 ≠ T ∧ p.1 ≠ a) → Q () { s with heap := h', toks := tk' }) :
    wpAny (model PG w) A' (noteFrame e (envOf name scope L' a cd)) Q E s' := by
  obtain ⟨a, c, mm, ex, nl, sl, h', tk', rfl, rfl, G, hc, hex, hL, hcase⟩ := hr
  rcases hcase with ⟨h, hx, F, N⟩ | ⟨T, oe, oT, hT, F, N, hne, hp⟩
  · refine note_first (s' := { s with heap := h', toks := tk' }) hfr' (frs_slots Fs sl) hx F N hL (fun h1 T oe oT sl1 Fs1 F1 N1 T1 hne1 hnew1 h01 h02 => ?_) hk
    refine k a c mm ex nl sl1 h1 tk' T oe oT rfl G hc hex hL T1 F1 N1 hne1 fun p hp => ?_
    rcases List.mem_append.mp hp with hp | hp
    · exact ⟨(hnew1 p hp).2, (hnew1 p hp).1⟩
    · rw [List.mem_singleton.mp hp]; exact ⟨h02, h01⟩
  · exact note_again (s := { s with heap := h', toks := tk' }) (m := mm) rfl N (.head _) (.tail _ (.head _)) hT (k a c mm ex nl sl h' tk' T oe oT rfl G hc hex hL hT F N hne hp)
theorem raised_passes {w : World} {A : Around} {base : Heap} {L' L : Addr} {oL : Obj} {P : (Str → Option Value) → List (Addr × Obj) → List (Addr × Obj) → Prop} {s : Shared} {env0 : Env} {name : Str} {scope : Scope} {a : Addr} {cd : Value}
    (A' : Around) (hfr' : A'.frames = some [envOf name scope L' a cd, env0]) (Fs : TI.Frs [env0] [(L, oL)]) (hk : scope.kind = .function) {e : Value} {s' : Shared} (hr : Raised base L' L oL P s e s') :
    notedBy (model PG w) A' (envOf name scope L' a cd) (cameBackBy (model PG w) A (envOf name scope L' a cd) (Raised base L' L oL P s)) e s' := by
  unfold notedBy
  refine raised_noted A' hfr' Fs hk hr fun a c mm ex nl sl h' tk' T oe oT he G hc hex hL hT F N hne hp => ?_
  subst he
  exact came_back (s := { s with heap := h', toks := tk' }) rfl F N hT hne (fun p q => (hp p q).1) fun h2 oT2 F2 N2 T2 =>
    ⟨a, c, mm, ex, nl, sl, h2, tk', rfl, rfl, G, hc, hex, hL, .inr ⟨T, oe, oT2, T2, F2, N2, hne, hp⟩⟩
section
local macro_rules | `(tactic| walk_at "MEM") => `(tactic| first | assumption | exact List.Mem.head _ | (refine List.Mem.tail _ ?_; walk_at "MEM") | (refine List.mem_append_left _ ?_; walk_at "MEM") | (refine List.mem_append_right _ ?_; walk_at "MEM"))
local macro_rules | `(tactic| walk_at "CANON") => `(tactic| (refine canon_of rfl rfl rfl rfl rfl rfl (fun z q1 q2 q3 q4 q5 q6 => ?_); (repeat (refine (if_neg (by assumption)).trans ?_)); symm; (repeat (refine (if_neg (by assumption)).trans ?_)); rfl))
local macro_rules | `(tactic| walk_at "exec While Compare cons nil") => `(tactic| refine halt ?_)
local macro_rules | `(tactic| walk_at "exec Try cons nil") => `(tactic| refine halt ?_)
local macro_rules | `(tactic| walk_at "exec Try") => `(tactic| refine halt ?_)
local macro_rules | `(tactic| walk_at "exec While Constant cons nil") => `(tactic| refine halt ?_)
set_option maxRecDepth 100000 in
set_option maxHeartbeats 8000000 in
theorem sld_spec {w : World} {mean : ExcName → Option Value} {mg mb : Str → Option Value} {base : Heap} {env0 : Env} {L : Addr} {m : Str → Option Value} {fz : List (Addr × Obj)} {x y : Value} {ns ms : List Int} {Ok : Heap → Prop} {IsFace : Int → Value → Prop}
    {s : Shared} {Q E : Value → Shared → Prop} (F : Fr base L s.heap m) (X : (hd.heap_39 w.params).In base) (N : News base L s.heap fz) (T : TopH mean mg mb base) (hef : env0.frame = some L) (hek : env0.scope.kind ≠ .module)
    (hok : ∀ h', (∀ b o, base.get? b = some o → h'.get? b = some o) → (∀ p ∈ fz, h'.get? p.1 = some p.2) → Ok h')
    (FO : FaceOps w Ok IsFace) (SX : SeqOps w Ok IsFace x ns) (SY : SeqOps w Ok IsFace y ms) (hns : ns.length ≤ 24) (hms : ms.length ≤ 24)
    (ret : ∀ Tu Mi Un vm vu nm nu n3 h' tk', Fr base L h' m → News base L h' ((Tu, ({ cls := .type "tuple", data := .seq #[.ref Mi, .ref Un] n3 } : Obj)) :: (Un, W.listOf vu.toArray nu) :: (Mi, W.listOf vm.toArray nm) :: fz) →
      Paired IsFace (sld ns ms).1 vm → Paired IsFace (sld ns ms).2 vu → Q (.ref Tu) { s with heap := h', toks := tk' }) :
    wpAny (model PG w) (callerA.deeper env0) (call (.ref 21) [x, y]) Q E s := by
  refine' call_inG (binds := [("expected", x), ("actual", y)]) F N X T ?k6 ?k7 ?k8 ?k9 ?kB hef hek ?_ ?c5 ?c2 ?c3 ?c4
  case k6 => k_is
  case k7 => k_is
  case k8 => (simp only [depth_deeper, depth_caller]; decide)
  case k9 => exact BindsTo.of_eq rfl
  case kB => exact locs rfl
  case c5 => decide
  case c2 => exact rfl
  case c3 => exact rfl
  case c4 => exact rfl
  intro oL h₁ Fs F' N' hfL
  have F'' := fr_eq F' (lookup2 _ _ _ _)
  clear F'
  try dsimp only
  k_steps
  rename Fr _ _ _ _ => F2
  rename News _ _ _ _ => N2
  rename_i _ _ Mi _ lM _ _ Un _ lU _
  have hMU : @LT.lt Nat _ Mi Un := lU.1
  have hfM : ∀ p ∈ fz ++ [(L, oL)], @LT.lt Nat _ p.1 Mi := lM
  have hML : @Ne Nat Mi L := Nat.ne_of_gt (hfM (L, oL) (by (first | walk_at "MEM" | simp)))
  have hUL : @Ne Nat Un L := Nat.ne_of_gt (Nat.lt_trans (hfM (L, oL) (by (first | walk_at "MEM" | simp))) hMU)
  clear lM lU
  have okAt : ∀ {h : Heap} {mm nl}, Fr base s.heap.objs.size h mm → News base s.heap.objs.size h nl → (∀ p ∈ fz, p ∈ nl) → Ok h := fun F N k => hok _ F.keep fun p hp => (N p (k p hp)).1
  have hnlL : ∀ {vm vu : List Value} {nm nu : Nat}, ∀ p ∈ (Un, W.listOf vu.toArray nu) :: (Mi, W.listOf vm.toArray nm) :: fz, p.1 ≠ L := fun p hp => by
    rcases List.mem_cons.mp hp with rfl | hp
    · exact hUL
    rcases List.mem_cons.mp hp with rfl | hp
    · exact hML
    · exact hfL p hp
  have hraise : ∀ {σ : Shared} {h : Heap} {mm : Str → Option Value} {i j : Nat} {h' : Heap} {tk' : Nat} {e : Addr} {ti tj : Tok} {u1 u2 : Option Value} {vm vu : List Value} {nm nu : Nat} {mi ui : List Int},
      mm = (fun z => if z = ("a" : Str) then u1 else if z = "e" then u2 else if z = "unexpected" then some (.ref Un) else if z = "missing" then some (.ref Mi) else if z = "j" then some (.int (j : Int) tj) else if z = "i" then some (.int (i : Int) ti) else if z = "actual" then some y else if z = "expected" then some x else none) →
      Fr base s.heap.objs.size h mm → News base s.heap.objs.size h ((Un, W.listOf vu.toArray nu) :: (Mi, W.listOf vm.toArray nm) :: (fz ++ [(L, oL)])) → ExcNew h h' e "IndexError" .none → i ≤ ns.length → j ≤ ms.length → Paired IsFace mi vm → Paired IsFace ui vu → mi.length ≤ i → ui.length ≤ j →
      sld ns ms = (mi ++ ns.drop i, ui ++ ms.drop j) → Raised base s.heap.objs.size L oL (fun mm nl _ => ∃ i j, Merge IsFace x y ns ms Mi Un fz i j mm nl (ns.drop i, ms.drop j)) σ (.ref e) { σ with heap := h', toks := tk' } := by
    intro σ h mm i j h' tk' e ti tj u1 u2 vm vu nm nu mi ui hmm F N hx hi hj hpm hpu hml hul heq
    exact ⟨e, .none, mm, [], (Un, W.listOf vu.toArray nu) :: (Mi, W.listOf vm.toArray nm) :: fz, oL.slots, h', tk', rfl, rfl, ⟨i, j, Merge.of hi hj ti tj u1 u2 vm vu nm nu mi ui hmm rfl hpm hpu hml hul heq⟩, .inl ⟨rfl, rfl⟩, (fun p hp => nomatch hp), hnlL, .inl ⟨h, hx, F, N⟩⟩
  refine While_inv2 (fun k mm nl => ∃ i j nl', nl = nl' ++ [(L, oL)] ∧ Merge IsFace x y ns ms Mi Un fz i j mm nl' (sld (ns.drop i) (ms.drop j)) ∧ k = (ns.length - i) + (ms.length - j)) F2 N2 (n₀ := ns.length + ms.length) ?hJ ?turn PassesOwn.never
  case hJ =>
    refine ⟨0, 0, (Un, W.listOf #[] 0) :: (Mi, W.listOf #[] 0) :: fz, by (first | walk_at "MEM" | simp), Merge.of (Nat.zero_le _) (Nat.zero_le _) (s.toks + 2) (s.toks + 2) none none [] [] 0 0 [] [] ?_ rfl .nil .nil (Nat.le_refl _) (Nat.le_refl _) (by simp), by (first | walk_at "MEM" | simp)⟩
    funext z
    by_cases q1 : z = ("a" : Str)
    · rw [q1]; rfl
    by_cases q2 : z = ("e" : Str)
    · rw [q2]; rfl
    rw [if_neg q1, if_neg q2]
    rfl
  case turn =>
    rintro k m₁ nl h tk Fa Na hJ
    refine opq_while fun σ K Kd hK hKd => ?_
    obtain ⟨i, j, nl', rfl, G, hk⟩ := hJ
    refine G.elim fun hi hj ti tj u1 u2 vm vu nm nu mi ui hm₁ hnl₁ hpm hpu hml hul heq => ?_
    clear G
    subst hm₁ hnl₁
    k_steps
    refine try_splitK (R := Raised base s.heap.objs.size L oL (fun mm nl _ => ∃ i j, Merge IsFace x y ns ms Mi Un fz i j mm nl (ns.drop i, ms.drop j)) σ) ?kpass ?kbody ?kcatch
    case kpass => exact fun A' B hA' e s' hr => raised_passes A' (hA'.trans (Around.frames_deeper (Around.frames_deeper rfl))) Fs rfl hr
    case kcatch =>
      clear Fa Na heq hpm hpu hml hul hi hj
      intro e s₁ hr
      refine raised_noted _ (Around.frames_deeper (Around.frames_deeper rfl)) Fs rfl hr (fun a c mm ex nl sl h5 tk5 T oe oT he G hc hex hL hT F5 N5 hne hp => ?_)
      obtain ⟨i, j, G⟩ := G
      refine G.elim fun hi hj ti tj u1 u2 vm vu nm nu mi ui hm₁ hnl₁ hpm hpu hml hul heq => ?_
      clear G
      subst hm₁ hnl₁
      subst he
      refine set_flight (s := {σ with heap := h5, toks := tk5}) F5 N5 hT hne (fun p hq => (hp p hq).1) fun h6 oT6 F6 N6 T6 => ?_
      refine index_clause (s := {σ with heap := h6, toks := tk5}) ?hname F6 N6 T6 hne (fun p hq => (hp p hq).1) (fun h7 oT7 F7 N7 T7 => ?_)
      case hname =>
        intro Q' E' q
        k_steps
        exact q
      have hfM' : ∀ p ∈ fz ++ [(L, ({ oL with slots := sl } : Obj))], @LT.lt Nat _ p.1 Mi := fun p hq => by
        rcases List.mem_append.mp hq with hq | hq
        · exact hfM p (List.mem_append_left _ hq)
        · rw [List.mem_singleton.mp hq]; exact hfM (L, oL) (by (first | walk_at "MEM" | simp))
      have hMa : Mi ≠ a ∧ Mi ≠ T := And.symm (hp (Mi, W.listOf vm.toArray nm) (by (first | walk_at "MEM" | simp)))
      have hUa : Un ≠ a ∧ Un ≠ T := And.symm (hp (Un, W.listOf vu.toArray nu) (by (first | walk_at "MEM" | simp)))
      k_steps
      refine kl_method (n := nm) (its := vm.toArray) N7 (by (first | walk_at "MEM" | simp)) PySem.F.slot_list_extend PySem.F.type_list_extend ?_
      have hLed : ∀ {h : Heap} {nl : List (Addr × Obj)} (p q : Addr × Obj), News base s.heap.objs.size h nl → p ∈ nl → q ∈ nl → (∃ vs, p.2.data = .fields vs) → (∃ vs n, q.2 = W.listOf vs n) → p.1 ≠ q.1 := fun {h nl} p q N hp hq h1 h2 e => by
        obtain ⟨vs1, e1⟩ := h1
        obtain ⟨vs2, n2, e2⟩ := h2
        have x1 := (N p hp).1
        have x2 := (N q hq).1
        rw [e, x2] at x1
        rw [← Option.some.inj x1, e2] at e1
        cases e1
      have hHand : ∀ (A : Around) {h : Heap}, h.get? a = some oe → (∀ p ∈ ex, h.get? p.1 = some p.2) → Handles (A.mark (some (.ref a))) h (.ref a) := fun A {h} ha hx => by
        obtain ⟨vs1, hd1, hsz1, hv1, hv2⟩ := T7.flds
        rcases hc with ⟨rfl, _⟩ | ⟨e1, o1, vs0, rfl, hm1, hd0, hv0⟩
        · exact .inr ⟨a, oe, vs1, rfl, rfl, ha, hd1, .inl hv2⟩
        · exact .inr ⟨a, oe, vs1, rfl, rfl, ha, hd1, .inr ⟨e1, o1, vs0, hv2, (hp (e1, o1) (by (first | walk_at "MEM" | simp [hm1]))).2, hx _ hm1, hd0, hv0⟩⟩
      have hxs : ∀ (A : Around) {h : Heap} {nl : List (Addr × Obj)}, News base s.heap.objs.size h nl → (a, oe) ∈ nl → (∀ p ∈ ex, p ∈ nl) → ∀ h', (∀ b ∈ a :: ex.map (·.1), ∀ o, h.get? b = some o → h'.get? b = some o) → Handles (A.mark (some (.ref a))) h' (.ref a) := fun A {h nl} N ha hx h' hk =>
        hHand A (hk a (.head _) _ (N _ ha).1) fun p hp => hk _ (.tail _ (List.mem_map_of_mem hp)) _ (N _ (hx p hp)).1
      have hexM : ∀ p ∈ ex, p.1 ≠ Mi := fun p hq => hLed p (Mi, W.listOf vm.toArray nm) N7 (by (first | walk_at "MEM" | simp [hq])) (by (first | walk_at "MEM" | simp)) (hex p hq) ⟨_, _, rfl⟩
      have hexU : ∀ p ∈ ex, p.1 ≠ Un := fun p hq => hLed p (Un, W.listOf vu.toArray nu) N7 (by (first | walk_at "MEM" | simp [hq])) (by (first | walk_at "MEM" | simp)) (hex p hq) ⟨_, _, rfl⟩
      have hexs : ∀ {h : Heap} {nl : List (Addr × Obj)}, News base s.heap.objs.size h nl → (a, oe) ∈ nl → (∀ p ∈ ex, p ∈ nl) → ∀ b ∈ a :: ex.map (·.1), ∃ o, h.get? b = some o := fun {h nl} N ha hx b hb => by
        rcases List.mem_cons.mp hb with rfl | hb
        · exact ⟨_, (N _ ha).1⟩
        · obtain ⟨p, hq, rfl⟩ := List.mem_map.mp hb
          exact ⟨_, (N _ (hx p hq)).1⟩
      k_steps
      refine SX.slice _ _ { σ with heap := h7, toks := tk5 } i ti _ _ _ _ _ _ (okAt F7 N7 (fun p hp => by (first | walk_at "MEM" | simp [hp]))) hi hns fun h8 tk8 rv hk8 hrv => ?_
      have F8 := F7.keeps hk8
      have N8 := N7.keeps hk8
      try dsimp only
      k_steps
      refine extend_rest (pre := (a, oe) :: (T, oT7) :: (ex ++ [(Un, W.listOf vu.toArray nu)])) (post := fz ++ [(L, { oL with slots := sl })]) (xs := a :: ex.map (·.1)) (c := .ref a) F8 (News.sub N8 fun p hp => by simpa using hp) ?_ (fun p hp => Nat.ne_of_lt (hfM' p hp)) hrv (hxs _ N8 (by (first | walk_at "MEM" | simp)) (fun p hp => by (first | walk_at "MEM" | simp [hp]))) ?_ ?_ (by rw [List.length_drop]; exact ar_rest hpm.length hml hi hns) fun h9 tk9 ws nm9 F9 N9 hws => ?_
      case refine_1 =>
        intro p hq
        rcases List.mem_cons.mp hq with rfl | hq
        · exact Ne.symm hMa.1
        rcases List.mem_cons.mp hq with rfl | hq
        · exact Ne.symm hMa.2
        rcases List.mem_append.mp hq with hq | hq
        · exact hexM p hq
        · rw [List.mem_singleton.mp hq]; exact Nat.ne_of_gt hMU
      case refine_2 =>
        intro hq
        rcases List.mem_cons.mp hq with hq | hq
        · exact hMa.1 hq
        · obtain ⟨p, hq, e⟩ := List.mem_map.mp hq
          exact hexM p hq e
      case refine_3 => exact hexs N8 (by (first | walk_at "MEM" | simp)) fun p hp => by (first | walk_at "MEM" | simp [hp])
      clear F7 N7 F8 N8 F6 N6 F5 N5
      try dsimp only
      k_steps
      refine kl_method (n := nu) (its := vu.toArray) N9 (by (first | walk_at "MEM" | simp)) PySem.F.slot_list_extend PySem.F.type_list_extend ?_
      k_steps
      refine SY.slice _ _ { σ with heap := h9, toks := tk9 } j tj _ _ _ _ _ _ (okAt F9 N9 (fun p hp => by (first | walk_at "MEM" | simp [hp]))) hj hms fun h10 tk10 rv2 hk10 hrv2 => ?_
      have F10 := F9.keeps hk10
      have N10 := N9.keeps hk10
      try dsimp only
      k_steps
      refine extend_rest (pre := (a, oe) :: (T, oT7) :: ex) (post := (Mi, W.listOf (vm ++ ws).toArray nm9) :: (fz ++ [(L, { oL with slots := sl })])) (xs := a :: ex.map (·.1)) (c := .ref a) F10 (News.sub N10 fun p hp => by simpa using hp) ?_ ?_ hrv2 (hxs _ N10 (by (first | walk_at "MEM" | simp)) (fun p hp => by (first | walk_at "MEM" | simp [hp]))) ?_ ?_ (by rw [List.length_drop]; exact ar_rest hpu.length hul hj hms) fun h11 tk11 us nu11 F11 N11 hus => ?_
      case refine_1 =>
        intro p hq
        rcases List.mem_cons.mp hq with rfl | hq
        · exact Ne.symm hUa.1
        rcases List.mem_cons.mp hq with rfl | hq
        · exact Ne.symm hUa.2
        · exact hexU p hq
      case refine_2 =>
        intro p hq
        rcases List.mem_cons.mp hq with rfl | hq
        · exact Nat.ne_of_lt hMU
        · exact Nat.ne_of_lt (Nat.lt_trans (hfM' p hq) hMU)
      case refine_3 =>
        intro hq
        rcases List.mem_cons.mp hq with hq | hq
        · exact hUa.1 hq
        · obtain ⟨p, hq, e⟩ := List.mem_map.mp hq
          exact hexU p hq e
      case refine_4 => exact hexs N10 (by (first | walk_at "MEM" | simp)) fun p hp => by (first | walk_at "MEM" | simp [hp])
      clear F9 N9 F10 N10
      try dsimp only
      k_steps
      try dsimp only
      refine hK _ _ _ ?_
      unfold WhileStep2
      try dsimp only
      k_steps
      rename Fr _ _ _ _ => F12
      rename News _ _ _ _ => N12
      rename (∀ (sl : Array (Option Value)) (new : List (Addr × Obj)), _ → _ → _ → _ ∧ _) => fin
      obtain ⟨Fe, Ne⟩ := fin sl ((_, ({ cls := .type "tuple", data := .seq #[.ref Mi, .ref Un] } : Obj)) :: (Un, W.listOf (vu ++ us).toArray nu11) :: (Mi, W.listOf (vm ++ ws).toArray nm9) :: fz)
        (News.sub N12 fun p hq => by
          simp only [List.cons_append, List.mem_cons, List.mem_append, List.not_mem_nil, or_false] at hq ⊢
          rcases hq with h | h | h | h | h
          · exact .inl h
          · exact .inr (.inr (.inr (.inr (.inl h))))
          · exact .inr (.inr (.inr (.inr (.inr (.inl h)))))
          · exact .inr (.inr (.inr (.inr (.inr (.inr (.inl h))))))
          · exact .inr (.inr (.inr (.inr (.inr (.inr (.inr h)))))))
        (fun p hq => by
          rcases List.mem_cons.mp hq with rfl | hq
          · refine fun e => ?_
            have x1 := (N12 _ (.head _)).1
            have x2 := (N12 (L, { oL with slots := sl }) (by (first | walk_at "MEM" | simp))).1
            dsimp only at e
            rw [e, x2] at x1
            have := congrArg Obj.cls (Option.some.inj x1)
            exact absurd (congrArg Obj.data (Option.some.inj x1)) (by
              obtain ⟨_, _, ⟨es, ep, hd⟩, _⟩ := Fs
              dsimp only at hd ⊢
              rw [hd]
              intro h; cases h)
          · exact hnlL p hq)
        F12.keep
      refine ret _ Mi Un _ _ _ _ _ _ _ Fe Ne ?_ ?_
      · rw [heq]; exact paired_append hpm hws
      · rw [heq]; exact paired_append hpu hus
    case kbody =>
    intro K2 R2 hK2 hR2 hP2
    have hend : ∀ h' tk' m₂ nl₂ n', Fr base s.heap.objs.size h' m₂ → News base s.heap.objs.size h' nl₂ → n' < k → (∃ i j nl', nl₂ = nl' ++ [(L, oL)] ∧ Merge IsFace x y ns ms Mi Un fz i j m₂ nl' (sld (ns.drop i) (ms.drop j)) ∧ n' = (ns.length - i) + (ms.length - j)) →
        K2 .next { σ with heap := h', toks := tk' } := fun h' tk' m₂ nl₂ n' a b c d => by
      refine hK2 _ _ ?_
      k_steps
      exact hK _ _ _ ⟨h', tk', m₂, nl₂, n', rfl, a, b, c, d⟩
    clear hK hKd hK2
    k_steps
    by_cases hi2 : i < ns.length
    case neg =>
      have hin : i = ns.length := ar_in hi hi2
      refine SX.out _ _ _ i .none ti _ _ _ _ _ (okAt Fa Na (fun p hp => by (first | walk_at "MEM" | simp [hp]))) (Handles.no rfl) (Nat.le_of_eq hin.symm) (ar_big hin hns) (fun h' tk' e hx => hR2 _ _ (hraise rfl Fa Na hx hi hj hpm hpu hml hul ?_))
      rw [heq, hin, List.drop_length, sld_nil]
    refine SX.item _ _ _ i ns[i] ti _ _ _ _ _ (okAt Fa Na (fun p hp => by (first | walk_at "MEM" | simp [hp]))) (List.getElem?_eq_getElem hi2) (fun ve tk1 hve => ?_)
    try dsimp only
    k_steps
    rename Fr _ _ _ _ => Fb
    rename News _ _ _ _ => Nb
    by_cases hj2 : j < ms.length
    case neg =>
      have hjn : j = ms.length := ar_in hj hj2
      refine SY.out _ _ _ j .none tj _ _ _ _ _ (okAt Fb Nb (fun p hp => by (first | walk_at "MEM" | simp [hp]))) (Handles.no rfl) (Nat.le_of_eq hjn.symm) (ar_big hjn hms) (fun h' tk' e hx => hR2 _ _ (hraise (u1 := u1) (u2 := some ve) (by walk_at "CANON") Fb Nb hx hi hj hpm hpu hml hul ?_))
      rw [heq, hjn, List.drop_length, sld_nil_right]
    refine SY.item _ _ _ j ms[j] tj _ _ _ _ _ (okAt Fb Nb (fun p hp => by (first | walk_at "MEM" | simp [hp]))) (List.getElem?_eq_getElem hj2) (fun va tk2 hva => ?_)
    try dsimp only
    k_steps
    rename Fr _ _ _ _ => Fc
    rename News _ _ _ _ => Nc
    refine FO.lt _ _ _ _ _ _ _ _ (Nat.le_of_ble_eq_true rfl) (okAt Fc Nc (fun p hp => by (first | walk_at "MEM" | simp [hp]))) hve hva (fun h3 tk3 hk3 => ?_)
    have Fd := Fc.keeps hk3
    have Nd := Nc.keeps hk3
    clear Fc Nc
    by_cases hlt : ns[i] < ms[j]
    case pos =>
      rw [decide_eq_true hlt]
      try dsimp only
      k_steps
      refine append_in (own := [(Un, _)]) (rest := fz ++ [(L, oL)]) Fd Nd (fun p hp => by rw [List.mem_singleton.mp hp]; exact Nat.ne_of_gt hMU) (fun p hp => Nat.ne_of_lt (hfM p hp)) (fun h4 Fe Ne4 => ?_) (by rw [sizeLine_eq]; exact ar_one hpm.length hml hi hns)
      try dsimp only
      k_steps
      rename Fr _ _ _ _ => Fe
      rename News _ _ _ _ => Ne5
      simp only [List.cons_append, List.nil_append] at Ne5
      rw [show ((i : Int) + 1) = ((i + 1 : Nat) : Int) from rfl] at Fe
      refine While_inv2 (fun k mm nl => Inner ns ns[i] i ((Un, W.listOf vu.toArray nu) :: (Mi, W.listOf (vm ++ [ve]).toArray (nm + 1)) :: (fz ++ [(L, oL)]))
        (fun i' ti' => (fun z => if z = ("a" : Str) then some va else if z = "e" then some ve else if z = "unexpected" then some (.ref Un) else if z = "missing" then some (.ref Mi) else if z = "j" then some (.int (j : Int) tj) else if z = "i" then some (.int (i' : Int) ti') else if z = "actual" then some y else if z = "expected" then some x else none)) k mm nl)
        Fe Ne5 (n₀ := ns.length - (i + 1)) (Inner.of (i + 1) (tk3 + 1) rfl (Nat.le_refl _) hi2 rfl rfl ?canon) ?inner ?passes
      case canon => walk_at "CANON"
      case passes => exact (fun e s' hr => hP2 _ _ rfl e s' hr)
      case inner =>
        rintro k' m₂ nl h5 tk5 Ff Nf hJ
        refine opq_whileS fun K4 Kd4 hK4 hKd4 => ?_
        refine hJ.elim fun i' ti' hn₂ hi1 hi3 hdrop hk' hm₂ => ?_
        clear hJ
        subst hm₂ hn₂
        skip
        k_steps
        by_cases hi4 : i' < ns.length
        case neg =>
          have hin : i' = ns.length := ar_in hi3 hi4
          refine SX.out _ _ _ i' .none ti' _ _ _ _ _ (okAt Ff Nf (fun p hp => by (first | walk_at "MEM" | simp [hp]))) (Handles.no rfl) (Nat.le_of_eq hin.symm) (ar_big hin hns) (fun h' tk' e hx => hR2 _ _ (hraise (mi := mi ++ [ns[i]]) rfl Ff Nf hx hi3 hj (hpm.snoc hve) hpu (ar_sn hml hi1) hul ?_))
          rw [heq, sld_lt hi2 hj2 hlt (zs := []) (by rw [hdrop, hin, List.drop_length]; rfl), sld_nil, hin, List.drop_length, List.append_assoc]; rfl
        refine SX.item _ _ _ i' ns[i'] ti' _ _ _ _ _ (okAt Ff Nf (fun p hp => by (first | walk_at "MEM" | simp [hp]))) (List.getElem?_eq_getElem hi4) (fun v6 tk6 hv6 => ?_)
        try dsimp only
        k_steps
        refine FO.eq _ _ _ _ _ _ _ _ (Nat.le_of_ble_eq_true rfl) (okAt Ff Nf (fun p hp => by (first | walk_at "MEM" | simp [hp]))) hv6 hve (fun h7 tk7 hk7 => ?_)
        have Fg := Ff.keeps hk7
        have Ng := Nf.keeps hk7
        clear Ff Nf
        by_cases heq2 : ns[i'] = ns[i]
        case pos =>
          rw [decide_eq_true heq2]
          try dsimp only
          k_steps
          rename Fr _ _ _ _ => Fi
          rename News _ _ _ _ => Ni
          rw [show ((i' : Int) + 1) = ((i' + 1 : Nat) : Int) from rfl] at Fi
          refine hK4 _ _ _ ?_
          refine ⟨_, _, _, _, ns.length - (i' + 1), rfl, Fi, Ni, ar_dn hk' hi4, Inner.of (i' + 1) (tk7 + 1) rfl (Nat.le_succ_of_le hi1) hi4 (hdrop.trans (dropEq_step hi4 heq2)) rfl ?_⟩
          walk_at "CANON"
        case neg =>
          rw [decide_eq_false heq2]
          try dsimp only
          k_steps
          refine hKd4 _ _ ?_
          k_steps
          exact hend _ _ _ _ ((ns.length - i') + (ms.length - j)) Fg Ng (ar_d1 hk hi1 hi2) ⟨i', j, (Un, W.listOf vu.toArray nu) :: (Mi, W.listOf (vm ++ [ve]).toArray (nm + 1)) :: fz, rfl,
            Merge.of hi3 hj ti' tj (some va) (some ve) (vm ++ [ve]) vu (nm + 1) nu (mi ++ [ns[i]]) ui rfl rfl (hpm.snoc hve) hpu (ar_sn hml hi1) hul (by
              rw [heq, sld_lt hi2 hj2 hlt (zs := ns.drop i') (hdrop.trans (dropEq_stop hi4 heq2)), List.append_assoc]; rfl), rfl⟩
    case neg =>
      rw [decide_eq_false hlt]
      try dsimp only
      k_steps
      refine FO.gt _ _ _ _ _ _ _ _ (Nat.le_of_ble_eq_true rfl) (okAt Fd Nd (fun p hp => by (first | walk_at "MEM" | simp [hp]))) hve hva (fun h8 tk8 hk8 => ?_)
      have Fd' := Fd.keeps hk8
      have Nd' := Nd.keeps hk8
      clear Fd Nd
      by_cases hgt : ms[j] < ns[i]
      case pos =>
        rw [decide_eq_true hgt]
        try dsimp only
        k_steps
        refine append_in (own := []) (rest := (Mi, _) :: (fz ++ [(L, oL)])) Fd' Nd' (fun p hp => nomatch hp) (fun p hp => by
          rcases List.mem_cons.mp hp with rfl | hp
          · exact Nat.ne_of_lt hMU
          · exact Nat.ne_of_lt (Nat.lt_trans (hfM p hp) hMU)) (fun h4 Fe Ne4 => ?_) (by rw [sizeLine_eq]; exact ar_one hpu.length hul hj hms)
        try dsimp only
        k_steps
        rename Fr _ _ _ _ => Fe
        rename News _ _ _ _ => Ne5
        simp only [List.cons_append, List.nil_append] at Ne5
        rw [show ((j : Int) + 1) = ((j + 1 : Nat) : Int) from rfl] at Fe
        refine While_inv2 (fun k mm nl => Inner ms ms[j] j ((Un, W.listOf (vu ++ [va]).toArray (nu + 1)) :: (Mi, W.listOf vm.toArray nm) :: (fz ++ [(L, oL)]))
          (fun i' ti' => (fun z => if z = ("a" : Str) then some va else if z = "e" then some ve else if z = "unexpected" then some (.ref Un) else if z = "missing" then some (.ref Mi) else if z = "j" then some (.int (i' : Int) ti') else if z = "i" then some (.int (i : Int) ti) else if z = "actual" then some y else if z = "expected" then some x else none)) k mm nl)
          Fe Ne5 (n₀ := ms.length - (j + 1)) (Inner.of (j + 1) (tk8 + 1) rfl (Nat.le_refl _) hj2 rfl rfl ?canon) ?inner ?passes
        case canon => walk_at "CANON"
        case passes => exact (fun e s' hr => hP2 _ _ rfl e s' hr)
        case inner =>
          rintro k' m₂ nl h5 tk5 Ff Nf hJ
          refine opq_whileS fun K4 Kd4 hK4 hKd4 => ?_
          refine hJ.elim fun i' ti' hn₂ hi1 hi3 hdrop hk' hm₂ => ?_
          clear hJ
          subst hm₂ hn₂
          skip
          k_steps
          by_cases hi4 : i' < ms.length
          case neg =>
            have hin : i' = ms.length := ar_in hi3 hi4
            refine SY.out _ _ _ i' .none ti' _ _ _ _ _ (okAt Ff Nf (fun p hp => by (first | walk_at "MEM" | simp [hp]))) (Handles.no rfl) (Nat.le_of_eq hin.symm) (ar_big hin hms) (fun h' tk' e hx => hR2 _ _ (hraise (ui := ui ++ [ms[j]]) rfl Ff Nf hx hi hi3 hpm (hpu.snoc hva) hml (ar_sn hul hi1) ?_))
            rw [heq, sld_gt hi2 hj2 hgt (zs := []) (by rw [hdrop, hin, List.drop_length]; rfl), sld_nil_right, hin, List.drop_length, List.append_assoc]; rfl
          refine SY.item _ _ _ i' ms[i'] ti' _ _ _ _ _ (okAt Ff Nf (fun p hp => by (first | walk_at "MEM" | simp [hp]))) (List.getElem?_eq_getElem hi4) (fun v6 tk6 hv6 => ?_)
          try dsimp only
          k_steps
          refine FO.eq _ _ _ _ _ _ _ _ (Nat.le_of_ble_eq_true rfl) (okAt Ff Nf (fun p hp => by (first | walk_at "MEM" | simp [hp]))) hv6 hva (fun h7 tk7 hk7 => ?_)
          have Fg := Ff.keeps hk7
          have Ng := Nf.keeps hk7
          clear Ff Nf
          by_cases heq2 : ms[i'] = ms[j]
          case pos =>
            rw [decide_eq_true heq2]
            try dsimp only
            k_steps
            rename Fr _ _ _ _ => Fi
            rename News _ _ _ _ => Ni
            rw [show ((i' : Int) + 1) = ((i' + 1 : Nat) : Int) from rfl] at Fi
            refine hK4 _ _ _ ?_
            refine ⟨_, _, _, _, ms.length - (i' + 1), rfl, Fi, Ni, ar_dn hk' hi4, Inner.of (i' + 1) (tk7 + 1) rfl (Nat.le_succ_of_le hi1) hi4 (hdrop.trans (dropEq_step hi4 heq2)) rfl ?_⟩
            walk_at "CANON"
          case neg =>
            rw [decide_eq_false heq2]
            try dsimp only
            k_steps
            refine hKd4 _ _ ?_
            k_steps
            exact hend _ _ _ _ ((ns.length - i) + (ms.length - i')) Fg Ng (ar_d2 hk hi1 hj2) ⟨i, i', (Un, W.listOf (vu ++ [va]).toArray (nu + 1)) :: (Mi, W.listOf vm.toArray nm) :: fz, rfl,
              Merge.of hi hi3 ti ti' (some va) (some ve) vm (vu ++ [va]) nm (nu + 1) mi (ui ++ [ms[j]]) rfl rfl hpm (hpu.snoc hva) hml (ar_sn hul hi1) (by
                rw [heq, sld_gt hi2 hj2 hgt (zs := ms.drop i') (hdrop.trans (dropEq_stop hi4 heq2)), List.append_assoc]; rfl), rfl⟩
      case neg =>
        rw [decide_eq_false hgt]
        try dsimp only
        k_steps
        rename Fr _ _ _ _ => Fe
        rename News _ _ _ _ => Ne5
        rw [show ((i : Int) + 1) = ((i + 1 : Nat) : Int) from rfl] at Fe
        have heq0 : ns[i] = ms[j] := Int.le_antisymm (Int.not_lt.mp hgt) (Int.not_lt.mp hlt)
        refine finally_splitK (R := Raised base s.heap.objs.size L oL (fun mm nl ex => ex = [] ∧ ∃ ti', dropEq ns[i] (ns.drop (i + 1)) = [] ∧ nl = (Un, W.listOf vu.toArray nu) :: (Mi, W.listOf vm.toArray nm) :: fz ∧
          mm = (fun z => if z = ("a" : Str) then some va else if z = "e" then some ve else if z = "unexpected" then some (.ref Un) else if z = "missing" then some (.ref Mi) else if z = "j" then some (.int (j : Int) tj) else if z = "i" then some (.int ((ns.length : Nat) : Int) ti') else if z = "actual" then some y else if z = "expected" then some x else none)) σ) ?fpass ?fbody ?fraised
        case fpass => exact fun A' B hA' e s' hr => raised_passes A' (hA'.trans (Around.frames_deeper (Around.frames_deeper rfl))) Fs rfl hr
        case fraised =>
          intro e s₁ hr
          refine raised_noted _ (Around.frames_deeper (Around.frames_deeper rfl)) Fs rfl hr (fun a c mm ex nl sl h5 tk5 T oe oT he G hc hex hL hT F5 N5 hne hp => ?_)
          obtain ⟨rfl, ti', hzs, rfl, rfl⟩ := G
          subst he
          have hcn : c = .none := by
            rcases hc with ⟨hc, _⟩ | ⟨e1, o1, vs1, _, hm, _⟩
            · exact hc
            · cases hm
          subst hcn
          refine ⟨ref_ne_byPass _, ?_⟩
          refine note_again (s := { σ with heap := h5, toks := tk5 }) (m := fun _ => none) rfl N5 (.head _) (.tail _ (.head _)) hT ?_
          refine set_flight (s := { σ with heap := h5, toks := tk5 }) F5 N5 hT hne (fun p hq => (hp p hq).1) fun h6 oT6 F6 N6 T6 => ?_
          try dsimp only
          k_steps
          rename Fr _ _ _ _ => F7
          rename News _ _ _ _ => N7
          simp only [List.nil_append, List.cons_append] at N7
          rw [show ((j : Int) + 1) = ((j + 1 : Nat) : Int) from rfl] at F7
          obtain ⟨vs1, hd1, hsz1, hv1, hv2⟩ := T6.flds
          obtain ⟨ts1, hdT1, _⟩ := T6.ent
          have hLa : ∀ p ∈ [(a, oe), (T, oT6)] ++ ((Un, W.listOf vu.toArray nu) :: (Mi, W.listOf vm.toArray nm) :: fz), p.1 ≠ L := fun p hq => by
            have h0 := hp (L, { oL with slots := sl }) (by (first | walk_at "MEM" | simp))
            simp only [List.cons_append, List.nil_append] at hq
            rcases List.mem_cons.mp hq with rfl | hq
            · exact Ne.symm h0.2
            rcases List.mem_cons.mp hq with rfl | hq
            · exact Ne.symm h0.1
            · exact hnlL p hq
          refine wpAny_passesOwnAt (fun e s' hr => hP2 _ _ (frames_mark _ _ rfl) e s' hr) ?_
          refine While_inv2 (fun k mm nl => Inner ms ms[j] j ((a, oe) :: (T, oT6) :: (Un, W.listOf vu.toArray nu) :: (Mi, W.listOf vm.toArray nm) :: (fz ++ [(L, { oL with slots := sl })]))
            (fun j' tj' => (fun z => if z = ("a" : Str) then some va else if z = "e" then some ve else if z = "unexpected" then some (.ref Un) else if z = "missing" then some (.ref Mi) else if z = "j" then some (.int (j' : Int) tj') else if z = "i" then some (.int ((ns.length : Nat) : Int) ti') else if z = "actual" then some y else if z = "expected" then some x else none)) k mm nl)
            F7 N7 (n₀ := ms.length - (j + 1)) (Inner.of (j + 1) (tk5 + 1) rfl (Nat.le_refl _) hj2 rfl rfl ?canon3) ?inner3 ?passes3
          case canon3 => walk_at "CANON"
          case passes3 => exact fun e s' hr => hP2 _ _ (frames_mark _ _ rfl) e s' hr
          case inner3 =>
            rintro k' m₂ nl h9 tk9 Fj Nj hJ
            refine opq_whileS fun K4 Kd4 hK4 hKd4 => ?_
            refine hJ.elim fun j' tj' hn₂ hj1 hj3 hdrop2 hk' hm₂ => ?_
            clear hJ
            subst hm₂ hn₂
            skip
            k_steps
            have hsl : sld (ns.drop i) (ms.drop j) = ([], dropEq ms[j] (ms.drop j')) := by rw [sld_eq hi2 hj2 heq0 hzs hdrop2, sld_nil]
            have hmi : mi.length ≤ ns.length := Nat.le_trans hml hi
            by_cases hj4 : j' < ms.length
            case neg =>
              have hjn : j' = ms.length := ar_in hj3 hj4
              refine SY.out _ _ _ j' (.ref a) tj' _ _ _ _ _ (okAt Fj Nj (fun p hp => by (first | walk_at "MEM" | simp [hp]))) (.inr ⟨a, oe, vs1, rfl, rfl, (Nj (a, oe) (.head _)).1, hd1, .inl hv2⟩) (Nat.le_of_eq hjn.symm) (ar_big hjn hms) (fun h' tk' e2 hx => ?_)
              refine hR2 _ _ ⟨e2, .ref a, _, [(a, oe), (T, oT6)], (Un, W.listOf vu.toArray nu) :: (Mi, W.listOf vm.toArray nm) :: fz, sl, h', tk', rfl, rfl, ⟨ns.length, j', Merge.of (Nat.le_refl _) hj3 ti' tj' (some va) (some ve) vm vu nm nu mi ui rfl rfl hpm hpu hmi (ar_wk hul hj1) ?_⟩, .inr ⟨a, oe, vs1, rfl, .head _, hd1, hv2⟩, fun p hq => ?_, hLa, .inl ⟨h9, hx, Fj, Nj⟩⟩
              · rw [heq, hsl, hjn, List.drop_length, List.drop_length]; rfl
              · simp only [List.mem_cons, List.not_mem_nil, or_false] at hq
                rcases hq with rfl | rfl
                · exact ⟨_, hd1⟩
                · exact ⟨_, hdT1⟩
            refine SY.item _ _ _ j' ms[j'] tj' _ _ _ _ _ (okAt Fj Nj (fun p hp => by (first | walk_at "MEM" | simp [hp]))) (List.getElem?_eq_getElem hj4) (fun v8 tk10 hv8 => ?_)
            try dsimp only
            k_steps
            refine FO.eq _ _ _ _ _ _ _ _ (Nat.le_of_ble_eq_true rfl) (okAt Fj Nj (fun p hp => by (first | walk_at "MEM" | simp [hp]))) hv8 hva (fun h11 tk11 hk11 => ?_)
            have Fk := Fj.keeps hk11
            have Nk := Nj.keeps hk11
            clear Fj Nj
            by_cases heq3 : ms[j'] = ms[j]
            case pos =>
              rw [decide_eq_true heq3]
              try dsimp only
              k_steps
              rename Fr _ _ _ _ => Fl
              rename News _ _ _ _ => Nl
              rw [show ((j' : Int) + 1) = ((j' + 1 : Nat) : Int) from rfl] at Fl
              refine hK4 _ _ _ ?_
              refine ⟨_, _, _, _, ms.length - (j' + 1), rfl, Fl, Nl, ar_dn hk' hj4, Inner.of (j' + 1) (tk11 + 1) rfl (Nat.le_succ_of_le hj1) hj4 (hdrop2.trans (dropEq_step hj4 heq3)) rfl ?_⟩
              walk_at "CANON"
            case neg =>
              rw [decide_eq_false heq3]
              try dsimp only
              k_steps
              refine hKd4 _ _ ?_
              k_steps
              refine pass_on (s := { σ with heap := h11, toks := tk11 }) rfl Fk Nk T6 hne (fun p hq => (hp p (by simpa using hq)).1) fun h12 oT12 F12 N12 T12 => ?_
              refine hR2 _ _ ⟨a, .none, _, [], (Un, W.listOf vu.toArray nu) :: (Mi, W.listOf vm.toArray nm) :: fz, sl, h12, tk11, rfl, rfl, ⟨ns.length, j', Merge.of (Nat.le_refl _) hj3 ti' tj' (some va) (some ve) vm vu nm nu mi ui rfl rfl hpm hpu hmi (ar_wk hul hj1) ?_⟩, .inl ⟨rfl, rfl⟩, (fun p hq => nomatch hq), hnlL, .inr ⟨T, oe, oT12, T12, F12, N12, hne, fun p hq => hp p (by simpa using hq)⟩⟩
              rw [heq, hsl, dropEq_stop hj4 heq3, List.drop_length]
        case fbody =>
        intro K3 R3 hK3 hR3 hP3
        k_steps
        refine While_inv2 (fun k mm nl => Inner ns ns[i] i ((Un, W.listOf vu.toArray nu) :: (Mi, W.listOf vm.toArray nm) :: (fz ++ [(L, oL)]))
          (fun i' ti' => (fun z => if z = ("a" : Str) then some va else if z = "e" then some ve else if z = "unexpected" then some (.ref Un) else if z = "missing" then some (.ref Mi) else if z = "j" then some (.int (j : Int) tj) else if z = "i" then some (.int (i' : Int) ti') else if z = "actual" then some y else if z = "expected" then some x else none)) k mm nl)
          Fe Ne5 (n₀ := ns.length - (i + 1)) (Inner.of (i + 1) (tk8 + 1) rfl (Nat.le_refl _) hi2 rfl rfl ?canon) ?inner ?passes
        case canon => walk_at "CANON"
        case passes => exact (fun e s' hr => hP3 _ _ rfl e s' hr)
        case inner =>
          rintro k' m₂ nl h5 tk5 Ff Nf hJ
          refine opq_whileS fun K4 Kd4 hK4 hKd4 => ?_
          refine hJ.elim fun i' ti' hn₂ hi1 hi3 hdrop hk' hm₂ => ?_
          clear hJ
          subst hm₂ hn₂
          skip
          k_steps
          by_cases hi4 : i' < ns.length
          case neg =>
            have hin : i' = ns.length := ar_in hi3 hi4
            subst hin
            refine SX.out _ _ _ _ .none ti' _ _ _ _ _ (okAt Ff Nf (fun p hp => by (first | walk_at "MEM" | simp [hp]))) (Handles.no rfl) (Nat.le_refl _) (ar_big rfl hns) (fun h' tk' e hx => ?_)
            exact hR3 _ _ ⟨e, .none, _, [], (Un, W.listOf vu.toArray nu) :: (Mi, W.listOf vm.toArray nm) :: fz, oL.slots, h', tk', rfl, rfl, ⟨rfl, ti', by rw [hdrop, List.drop_length]; rfl, rfl, rfl⟩, .inl ⟨rfl, rfl⟩, (fun p hp => nomatch hp), hnlL, .inl ⟨h5, hx, Ff, Nf⟩⟩
          refine SX.item _ _ _ i' ns[i'] ti' _ _ _ _ _ (okAt Ff Nf (fun p hp => by (first | walk_at "MEM" | simp [hp]))) (List.getElem?_eq_getElem hi4) (fun v6 tk6 hv6 => ?_)
          try dsimp only
          k_steps
          refine FO.eq _ _ _ _ _ _ _ _ (Nat.le_of_ble_eq_true rfl) (okAt Ff Nf (fun p hp => by (first | walk_at "MEM" | simp [hp]))) hv6 hve (fun h7 tk7 hk7 => ?_)
          have Fg := Ff.keeps hk7
          have Ng := Nf.keeps hk7
          clear Ff Nf
          by_cases heq2 : ns[i'] = ns[i]
          case pos =>
            rw [decide_eq_true heq2]
            try dsimp only
            k_steps
            rename Fr _ _ _ _ => Fi
            rename News _ _ _ _ => Ni
            rw [show ((i' : Int) + 1) = ((i' + 1 : Nat) : Int) from rfl] at Fi
            refine hK4 _ _ _ ?_
            refine ⟨_, _, _, _, ns.length - (i' + 1), rfl, Fi, Ni, ar_dn hk' hi4, Inner.of (i' + 1) (tk7 + 1) rfl (Nat.le_succ_of_le hi1) hi4 (hdrop.trans (dropEq_step hi4 heq2)) rfl ?_⟩
            walk_at "CANON"
          case neg =>
            rw [decide_eq_false heq2]
            try dsimp only
            have hzs : dropEq ns[i] (ns.drop (i + 1)) = ns.drop i' := hdrop.trans (dropEq_stop hi4 heq2)
            k_steps
            refine hKd4 _ _ ?_
            k_steps
            refine hK3 _ _ ?_
            k_steps
            rename Fr _ _ _ _ => Fi
            rename News _ _ _ _ => Ni
            rw [show ((j : Int) + 1) = ((j + 1 : Nat) : Int) from rfl] at Fi
            refine wpAny_passesOwn (fun e s' hr => hP2 _ _ rfl e s' hr) ?_
            refine While_inv2 (fun k mm nl => Inner ms ms[j] j ((Un, W.listOf vu.toArray nu) :: (Mi, W.listOf vm.toArray nm) :: (fz ++ [(L, oL)]))
              (fun j' tj' => (fun z => if z = ("a" : Str) then some va else if z = "e" then some ve else if z = "unexpected" then some (.ref Un) else if z = "missing" then some (.ref Mi) else if z = "j" then some (.int (j' : Int) tj') else if z = "i" then some (.int (i' : Int) ti') else if z = "actual" then some y else if z = "expected" then some x else none)) k mm nl)
              Fi Ni (n₀ := ms.length - (j + 1)) (Inner.of (j + 1) (tk7 + 1) rfl (Nat.le_refl _) hj2 rfl rfl ?canon2) ?inner2 ?passes2
            case canon2 => walk_at "CANON"
            case passes2 => exact (fun e s' hr => hP2 _ _ rfl e s' hr)
            case inner2 =>
              rintro k' m₂ nl h9 tk9 Fj Nj hJ
              refine opq_whileS fun K5 Kd5 hK5 hKd5 => ?_
              refine hJ.elim fun j' tj' hn₂ hj1 hj3 hdrop2 hk' hm₂ => ?_
              clear hJ
              subst hm₂ hn₂
              skip
              k_steps
              by_cases hj4 : j' < ms.length
              case neg =>
                have hjn : j' = ms.length := ar_in hj3 hj4
                refine SY.out _ _ _ j' .none tj' _ _ _ _ _ (okAt Fj Nj (fun p hp => by (first | walk_at "MEM" | simp [hp]))) (Handles.no rfl) (Nat.le_of_eq hjn.symm) (ar_big hjn hms) (fun h' tk' e hx => hR2 _ _ (hraise rfl Fj Nj hx hi3 hj3 hpm hpu (ar_wk hml hi1) (ar_wk hul hj1) ?_))
                rw [heq, sld_eq hi2 hj2 heq0 hzs (ys := []) (by rw [hdrop2, hjn, List.drop_length]; rfl), sld_nil_right, hjn, List.drop_length]
              refine SY.item _ _ _ j' ms[j'] tj' _ _ _ _ _ (okAt Fj Nj (fun p hp => by (first | walk_at "MEM" | simp [hp]))) (List.getElem?_eq_getElem hj4) (fun v8 tk10 hv8 => ?_)
              try dsimp only
              k_steps
              refine FO.eq _ _ _ _ _ _ _ _ (Nat.le_of_ble_eq_true rfl) (okAt Fj Nj (fun p hp => by (first | walk_at "MEM" | simp [hp]))) hv8 hva (fun h11 tk11 hk11 => ?_)
              have Fk := Fj.keeps hk11
              have Nk := Nj.keeps hk11
              clear Fj Nj
              by_cases heq3 : ms[j'] = ms[j]
              case pos =>
                rw [decide_eq_true heq3]
                try dsimp only
                k_steps
                rename Fr _ _ _ _ => Fl
                rename News _ _ _ _ => Nl
                rw [show ((j' : Int) + 1) = ((j' + 1 : Nat) : Int) from rfl] at Fl
                refine hK5 _ _ _ ?_
                refine ⟨_, _, _, _, ms.length - (j' + 1), rfl, Fl, Nl, ar_dn hk' hj4, Inner.of (j' + 1) (tk11 + 1) rfl (Nat.le_succ_of_le hj1) hj4 (hdrop2.trans (dropEq_step hj4 heq3)) rfl ?_⟩
                walk_at "CANON"
              case neg =>
                rw [decide_eq_false heq3]
                try dsimp only
                k_steps
                refine hKd5 _ _ ?_
                k_steps
                exact hend _ _ _ _ ((ns.length - i') + (ms.length - j')) Fk Nk (ar_d3 hk hi1 hi2 hj1) ⟨i', j', (Un, W.listOf vu.toArray nu) :: (Mi, W.listOf vm.toArray nm) :: fz, rfl,
                  Merge.of hi3 hj3 ti' tj' (some va) (some ve) vm vu nm nu mi ui rfl rfl hpm hpu (ar_wk hml hi1) (ar_wk hul hj1) (by
                    rw [heq, sld_eq hi2 hj2 heq0 hzs (hdrop2.trans (dropEq_stop hj4 heq3))]), rfl⟩
end
end
section
open PySem PySem.W PyProof.Rows PyProof.V PySem.Spec PySem.Calls
open PySem.SeqAt
open PySem.AutoSeq1 (wpAny_loadPart')
open MeetsSeq MeetsSeq2 MeetsSeq3 SeqRoads2
inductive Atom where
  | int (n : Int)
  | str (x : Str)
def AtomIs : Atom → Value → Prop
  | .int n, v => ∃ t, v = .int n t
  | .str x, v => ∃ t, v = .str x t
def atomEq : Atom → Atom → Bool
  | .int n, .int k => n == k
  | .str x, .str y => x.cps.toList == y.cps.toList
  | _, _ => false
/-- the first pair that differs decides; none: not seen here -/
def atomCmp (lt : Bool) : Atom → Atom → Option Bool
  | .int n, .int k => some (if lt then decide (n < k) else decide (k < n))
  | .str x, .str y => some (if lt then decide (x.cps.toList < y.cps.toList) else decide (y.cps.toList < x.cps.toList))
  | _, _ => none
def lexA (lt : Bool) : List Atom → List Atom → Option Bool
  | [], [] => some false
  | [], _ :: _ => some lt
  | _ :: _, [] => some (!lt)
  | a :: xs, c :: ys => if atomEq a c then lexA lt xs ys else atomCmp lt a c
theorem paired_at {α β : Type} {P : α → β → Prop} : ∀ {xs : List α} {vs : List β}, Paired P xs vs → ∀ (i : Nat) (a : α) (v : β), xs[i]? = some a → vs[i]? = some v → P a v
  | _, _, .nil, i, a, v, h, _ => by simp at h
  | _, _, .cons h r, 0, a, v, h1, h2 => by simp at h1 h2; rw [← h1, ← h2]; exact h
  | _, _, .cons h r, i + 1, a, v, h1, h2 => paired_at r i a v (by simpa using h1) (by simpa using h2)
section
variable {A : Around} {s : Shared}
theorem atom_eqAt {a c : Atom} {v u : Value} (h1 : AtomIs a v) (h2 : AtomIs c u) : EqAt A s v u (atomEq a c) := by
  cases a <;> cases c <;> obtain ⟨t, rfl⟩ := h1 <;> obtain ⟨t', rfl⟩ := h2
  · exact EqAt.int_int _ _ _ _
  · exact EqAt.int_str _ _ _ _
  · exact EqAt.str_int _ _ _ _
  · exact (EqGives.str _ _ _ _).at A s
end
section
variable {prog : Program} {w : World} {A : Around} {E : Value → Shared → Prop} {s : Shared}
theorem atom_lt {a c : Atom} {v u : Value} {r : Bool} {Q : Value → Shared → Prop} (h1 : AtomIs a v) (h2 : AtomIs c u) (hr : atomCmp true a c = some r) (h : Q (.bool r) s) : wpAny (model prog w) A (richCompare .Lt v u) Q E s := by
  cases a <;> cases c <;> obtain ⟨t, rfl⟩ := h1 <;> obtain ⟨t', rfl⟩ := h2
  · cases hr; exact lt_int h
  · cases hr
  · cases hr
  · cases hr; exact lt_str h
theorem atom_gt {a c : Atom} {v u : Value} {r : Bool} {Q : Value → Shared → Prop} (h1 : AtomIs a v) (h2 : AtomIs c u) (hr : atomCmp false a c = some r) (h : Q (.bool r) s) : wpAny (model prog w) A (richCompare .Gt v u) Q E s := by
  cases a <;> cases c <;> obtain ⟨t, rfl⟩ := h1 <;> obtain ⟨t', rfl⟩ := h2
  · cases hr; exact gt_int h
  · cases hr
  · cases hr
  · cases hr; exact PySem.P.gt_str h
end

theorem list_lt_loop (l b : Addr) (items items2 : Array Value) (n n2 : Nat) (dd dd2 : Option Addr) (sl sl2 : Array (Option Value)) (xs ys : List Atom) (hx : Paired AtomIs xs items.toList) (hy : Paired AtomIs ys items2.toList) (r : Bool) (k : Nat) :
    ∀ i : Nat, items.size - i = k → i ≤ items.size → i ≤ items2.size → lexA true (xs.drop i) (ys.drop i) = some r → Meets (Builtin.«list.__eq__.loop» ⟨[.ref l, .ref b, rawInt i, rawInt 0], []⟩)
      (fun A R s => s.heap.get? l = some { cls := .type "list", dict := dd, data := .seq items n, slots := sl } ∧ s.heap.get? b = some { cls := .type "list", dict := dd2, data := .seq items2 n2, slots := sl2 } ∧
        R (.ok (.ret (.bool r))) s) := by
  have lx : xs.length = items.size := hx.length.trans Array.length_toList
  have ly : ys.length = items2.size := hy.length.trans Array.length_toList
  induction k with
  | zero =>
    intro i hk hi1 hi2 hr prog w A R s h
    have hxl : xs.length ≤ i := by omega
    have hyl : i < ys.length → items.size < items2.size := by omega
    have hyl2 : ys.length ≤ i → items.size = items2.size := by omega
    obtain ⟨hp, g, d, tk, os⟩ := s; obtain ⟨hl, hb, h⟩ := h
    wp_walk using wpAny_loadPart' hl, wpAny_loadPart' hb
    have hn1 : items[((i : Nat) : Int).toNat]? = none := by simp; omega
    rw [hn1]
    rw [List.drop_eq_nil_of_le hxl] at hr
    wp_walk using wpAny_loadPart' hl, wpAny_loadPart' hb
    rcases Nat.lt_or_ge i ys.length with hlt | hge
    · rw [List.drop_eq_getElem_cons hlt] at hr
      have e : r = true := by simpa [lexA] using hr.symm
      show R (.ok (.ret (.bool (decide (items.size < items2.size))))) _
      have : (decide (items.size < items2.size)) = r := by
        rw [e]
        first | (have := hyl hlt; simp; omega) | (have := hyl2 hge; simp; omega) | (simp; omega)
      rw [this]; exact h
    · rw [List.drop_eq_nil_of_le hge] at hr
      have e : r = false := by simpa [lexA] using hr.symm
      show R (.ok (.ret (.bool (decide (items.size < items2.size))))) _
      have : (decide (items.size < items2.size)) = r := by
        rw [e]
        first | (have := hyl hlt; simp; omega) | (have := hyl2 hge; simp; omega) | (simp; omega)
      rw [this]; exact h
  | succ k ih =>
    intro i hk hi1 hi2 hr prog w A R s h
    have hxi : i < xs.length := by omega
    have hyi0 : i < items2.size → i < ys.length := by omega
    have hyi1 : items2.size ≤ i → ys.length ≤ i := by omega
    obtain ⟨hp, g, d, tk, os⟩ := s; obtain ⟨hl, hb, h⟩ := h
    wp_walk using wpAny_loadPart' hl, wpAny_loadPart' hb
    have hlt : i < items.size := by omega
    have hn1 : items[((i : Nat) : Int).toNat]? = some items[i] := by simp [hlt]
    rcases Nat.lt_or_ge i items2.size with hlt2 | hge
    · have hn2 : items2[((i : Nat) : Int).toNat]? = some items2[i] := by simp [hlt2]
      have hc : ((i : Int) + 1) = ((i + 1 : Nat) : Int) := by push_cast; rfl
      rw [hn1, hn2]
      have hyi : i < ys.length := hyi0 hlt2
      rw [List.drop_eq_getElem_cons hxi, List.drop_eq_getElem_cons hyi, lexA] at hr
      have ha : AtomIs xs[i] items[i] := paired_at hx i _ _ (List.getElem?_eq_getElem _) (by simp [hlt])
      have hc' : AtomIs ys[i] items2[i] := paired_at hy i _ _ (List.getElem?_eq_getElem _) (by simp [hlt2])
      generalize xs[i] = a at ha hr
      generalize ys[i] = c at hc' hr
      refine wpAny_bind (atom_eqAt ha hc' prog w _ _ ?_)
      cases hb' : atomEq a c with
      | true =>
        rw [hb', if_pos rfl] at hr
        wp_walk
        rw [hc]
        exact ⟨plainId_quiet plain_eq_loop _, codeAny_builtin entry_eq_loop (by
          rw [Around.under_plainId plain_eq_loop _]
          exact ih (i + 1) (by omega) (by omega) (by omega) hr prog w A R _ ⟨hl, hb, h⟩)⟩
      | false =>
        rw [hb', if_neg Bool.false_ne_true] at hr
        wp_walk using wpAny_loadPart' hl, wpAny_loadPart' hb
        rw [hn1, hn2]
        refine wpAny_bind (atom_lt ha hc' hr ?_)
        wp_walk
        exact h
    · have hn2 : items2[((i : Nat) : Int).toNat]? = none := by simp; omega
      rw [hn1, hn2]
      rw [List.drop_eq_getElem_cons hxi, List.drop_eq_nil_of_le (hyi1 hge)] at hr
      have e : r = !true := by simpa [lexA] using hr.symm
      wp_walk using wpAny_loadPart' hl, wpAny_loadPart' hb
      show R (.ok (.ret (.bool (decide (items.size < items2.size))))) _
      have : (decide (items.size < items2.size)) = r := by
        rw [e]
        first | (have := hyl hlt; simp; omega) | (have := hyl2 hge; simp; omega) | (simp; omega)
      rw [this]; exact h

theorem list_lt (l b : Addr) (items items2 : Array Value) (n n2 : Nat) (dd dd2 : Option Addr) (sl sl2 : Array (Option Value)) (xs ys : List Atom) (hx : Paired AtomIs xs items.toList) (hy : Paired AtomIs ys items2.toList) (r : Bool) (hr : lexA true xs ys = some r) :
    Meets (Builtin.«list.__lt__» ⟨[.ref l, .ref b], []⟩)
      (fun A R s => s.heap.get? l = some { cls := .type "list", dict := dd, data := .seq items n, slots := sl } ∧ s.heap.get? b = some { cls := .type "list", dict := dd2, data := .seq items2 n2, slots := sl2 } ∧
        R (.ok (.ret (.bool r))) s) := by
  intro prog w A R s h
  obtain ⟨hp, g, d, tk, os⟩ := s; obtain ⟨hl, hb, h⟩ := h
  have f3 := AutoSeq1.sub_list_list
  wp_walk using wpAny_loadPart' hl, wpAny_loadPart' hb
  exact ⟨plainId_quiet plain_eq_loop _, codeAny_builtin entry_eq_loop (by
    rw [Around.under_plainId plain_eq_loop _]
    exact list_lt_loop l b items items2 n n2 dd dd2 sl sl2 xs ys hx hy r _ 0 rfl (Nat.zero_le _) (Nat.zero_le _) hr prog w A R _ ⟨hl, hb, h⟩)⟩

theorem list_gt_loop (l b : Addr) (items items2 : Array Value) (n n2 : Nat) (dd dd2 : Option Addr) (sl sl2 : Array (Option Value)) (xs ys : List Atom) (hx : Paired AtomIs xs items.toList) (hy : Paired AtomIs ys items2.toList) (r : Bool) (k : Nat) :
    ∀ i : Nat, items.size - i = k → i ≤ items.size → i ≤ items2.size → lexA false (xs.drop i) (ys.drop i) = some r → Meets (Builtin.«list.__eq__.loop» ⟨[.ref l, .ref b, rawInt i, rawInt 4], []⟩)
      (fun A R s => s.heap.get? l = some { cls := .type "list", dict := dd, data := .seq items n, slots := sl } ∧ s.heap.get? b = some { cls := .type "list", dict := dd2, data := .seq items2 n2, slots := sl2 } ∧
        R (.ok (.ret (.bool r))) s) := by
  have lx : xs.length = items.size := hx.length.trans Array.length_toList
  have ly : ys.length = items2.size := hy.length.trans Array.length_toList
  induction k with
  | zero =>
    intro i hk hi1 hi2 hr prog w A R s h
    have hxl : xs.length ≤ i := by omega
    have hyl : i < ys.length → items.size < items2.size := by omega
    have hyl2 : ys.length ≤ i → items.size = items2.size := by omega
    obtain ⟨hp, g, d, tk, os⟩ := s; obtain ⟨hl, hb, h⟩ := h
    wp_walk using wpAny_loadPart' hl, wpAny_loadPart' hb
    have hn1 : items[((i : Nat) : Int).toNat]? = none := by simp; omega
    rw [hn1]
    rw [List.drop_eq_nil_of_le hxl] at hr
    wp_walk using wpAny_loadPart' hl, wpAny_loadPart' hb
    rcases Nat.lt_or_ge i ys.length with hlt | hge
    · rw [List.drop_eq_getElem_cons hlt] at hr
      have e : r = false := by simpa [lexA] using hr.symm
      show R (.ok (.ret (.bool (decide (items.size > items2.size))))) _
      have : (decide (items.size > items2.size)) = r := by
        rw [e]
        first | (have := hyl hlt; simp; omega) | (have := hyl2 hge; simp; omega) | (simp; omega)
      rw [this]; exact h
    · rw [List.drop_eq_nil_of_le hge] at hr
      have e : r = false := by simpa [lexA] using hr.symm
      show R (.ok (.ret (.bool (decide (items.size > items2.size))))) _
      have : (decide (items.size > items2.size)) = r := by
        rw [e]
        first | (have := hyl hlt; simp; omega) | (have := hyl2 hge; simp; omega) | (simp; omega)
      rw [this]; exact h
  | succ k ih =>
    intro i hk hi1 hi2 hr prog w A R s h
    have hxi : i < xs.length := by omega
    have hyi0 : i < items2.size → i < ys.length := by omega
    have hyi1 : items2.size ≤ i → ys.length ≤ i := by omega
    obtain ⟨hp, g, d, tk, os⟩ := s; obtain ⟨hl, hb, h⟩ := h
    wp_walk using wpAny_loadPart' hl, wpAny_loadPart' hb
    have hlt : i < items.size := by omega
    have hn1 : items[((i : Nat) : Int).toNat]? = some items[i] := by simp [hlt]
    rcases Nat.lt_or_ge i items2.size with hlt2 | hge
    · have hn2 : items2[((i : Nat) : Int).toNat]? = some items2[i] := by simp [hlt2]
      have hc : ((i : Int) + 1) = ((i + 1 : Nat) : Int) := by push_cast; rfl
      rw [hn1, hn2]
      have hyi : i < ys.length := hyi0 hlt2
      rw [List.drop_eq_getElem_cons hxi, List.drop_eq_getElem_cons hyi, lexA] at hr
      have ha : AtomIs xs[i] items[i] := paired_at hx i _ _ (List.getElem?_eq_getElem _) (by simp [hlt])
      have hc' : AtomIs ys[i] items2[i] := paired_at hy i _ _ (List.getElem?_eq_getElem _) (by simp [hlt2])
      generalize xs[i] = a at ha hr
      generalize ys[i] = c at hc' hr
      refine wpAny_bind (atom_eqAt ha hc' prog w _ _ ?_)
      cases hb' : atomEq a c with
      | true =>
        rw [hb', if_pos rfl] at hr
        wp_walk
        rw [hc]
        exact ⟨plainId_quiet plain_eq_loop _, codeAny_builtin entry_eq_loop (by
          rw [Around.under_plainId plain_eq_loop _]
          exact ih (i + 1) (by omega) (by omega) (by omega) hr prog w A R _ ⟨hl, hb, h⟩)⟩
      | false =>
        rw [hb', if_neg Bool.false_ne_true] at hr
        wp_walk using wpAny_loadPart' hl, wpAny_loadPart' hb
        rw [hn1, hn2]
        refine wpAny_bind (atom_gt ha hc' hr ?_)
        wp_walk
        exact h
    · have hn2 : items2[((i : Nat) : Int).toNat]? = none := by simp; omega
      rw [hn1, hn2]
      rw [List.drop_eq_getElem_cons hxi, List.drop_eq_nil_of_le (hyi1 hge)] at hr
      have e : r = !false := by simpa [lexA] using hr.symm
      wp_walk using wpAny_loadPart' hl, wpAny_loadPart' hb
      show R (.ok (.ret (.bool (decide (items.size > items2.size))))) _
      have : (decide (items.size > items2.size)) = r := by
        rw [e]
        first | (have := hyl hlt; simp; omega) | (have := hyl2 hge; simp; omega) | (simp; omega)
      rw [this]; exact h

theorem list_gt (l b : Addr) (items items2 : Array Value) (n n2 : Nat) (dd dd2 : Option Addr) (sl sl2 : Array (Option Value)) (xs ys : List Atom) (hx : Paired AtomIs xs items.toList) (hy : Paired AtomIs ys items2.toList) (r : Bool) (hr : lexA false xs ys = some r) :
    Meets (Builtin.«list.__gt__» ⟨[.ref l, .ref b], []⟩)
      (fun A R s => s.heap.get? l = some { cls := .type "list", dict := dd, data := .seq items n, slots := sl } ∧ s.heap.get? b = some { cls := .type "list", dict := dd2, data := .seq items2 n2, slots := sl2 } ∧
        R (.ok (.ret (.bool r))) s) := by
  intro prog w A R s h
  obtain ⟨hp, g, d, tk, os⟩ := s; obtain ⟨hl, hb, h⟩ := h
  have f3 := AutoSeq1.sub_list_list
  wp_walk using wpAny_loadPart' hl, wpAny_loadPart' hb
  exact ⟨plainId_quiet plain_eq_loop _, codeAny_builtin entry_eq_loop (by
    rw [Around.under_plainId plain_eq_loop _]
    exact list_gt_loop l b items items2 n n2 dd dd2 sl sl2 xs ys hx hy r _ 0 rfl (Nat.zero_le _) (Nat.zero_le _) hr prog w A R _ ⟨hl, hb, h⟩)⟩

theorem tuple_lt (l b : Addr) (items items2 : Array Value) (n n2 : Nat) (dd dd2 : Option Addr) (sl sl2 : Array (Option Value)) (xs ys : List Atom) (hx : Paired AtomIs xs items.toList) (hy : Paired AtomIs ys items2.toList) (r : Bool) (hr : lexA true xs ys = some r) :
    Meets (Builtin.«tuple.__lt__» ⟨[.ref l, .ref b], []⟩)
      (fun A R s => s.heap.get? l = some { cls := .type "tuple", dict := dd, data := .seq items n, slots := sl } ∧ s.heap.get? b = some { cls := .type "tuple", dict := dd2, data := .seq items2 n2, slots := sl2 } ∧
        R (.ok (.ret (.bool r))) s) :=
  .of_wp fun prog w A R s h => by
    have lx : xs.length = items.size := hx.length.trans Array.length_toList
    have ly : ys.length = items2.size := hy.length.trans Array.length_toList
    have hxi : ∀ i, i < items.size → i < xs.length := fun i hi => by omega
    have hyi : ∀ i, i < items2.size → i < ys.length := fun i hi => by omega
    have fin : ∀ i, i ≤ items.size → i ≤ items2.size → min items.size items2.size ≤ i → lexA true (xs.drop i) (ys.drop i) = some r → (decide (items.size < items2.size) : Bool) = r := fun i h1 h2 h3 h4 => by
      rcases Nat.lt_or_ge i xs.length with hlt | hge
      · rw [List.drop_eq_getElem_cons hlt, List.drop_eq_nil_of_le (by omega : ys.length ≤ i)] at h4
        have e : r = !true := by simpa [lexA] using h4.symm
        rw [e]; simp; omega
      · rw [List.drop_eq_nil_of_le hge] at h4
        rcases Nat.lt_or_ge i ys.length with hlt | hge2
        · rw [List.drop_eq_getElem_cons hlt] at h4
          have e : r = true := by simpa [lexA] using h4.symm
          rw [e]; simp; omega
        · rw [List.drop_eq_nil_of_le hge2] at h4
          have e : r = false := by simpa [lexA] using h4.symm
          rw [e]; simp; omega
    obtain ⟨hp, g, d, tk, os⟩ := s; obtain ⟨hl, hb, h⟩ := h
    have f2 := AutoSeq1.sub_tuple_tuple
    have hZ : (items.toList.zip items2.toList).length = min items.size items2.size := by simp
    wp_walk using wpAny_loadPart' hl, wpAny_loadPart' hb, wpAny_forIn_list _ (fun rest b s' => b.1 = none ∧ s' = ⟨hp, g, d, tk, os⟩ ∧ ∃ i, rest = (items.toList.zip items2.toList).drop i ∧ i ≤ items.size ∧ i ≤ items2.size ∧
      lexA true (xs.drop i) (ys.drop i) = some r) _
    case turn =>
      rintro ⟨y, x⟩ rest b s' ⟨hb', rfl, i, hz, hi1, hi2, hR⟩
      have hlt : i < (items.toList.zip items2.toList).length := by
        rcases Nat.lt_or_ge i (items.toList.zip items2.toList).length with h' | h'
        · exact h'
        · rw [List.drop_of_length_le h'] at hz; cases hz
      have hm : i < min items.size items2.size := hZ ▸ hlt
      have h1 : i < items.size := Nat.lt_of_lt_of_le hm (Nat.min_le_left _ _)
      have h2 : i < items2.size := Nat.lt_of_lt_of_le hm (Nat.min_le_right _ _)
      rw [List.drop_eq_getElem_cons hlt] at hz
      injection hz with hyx hrest
      have hy' : y = items[i] := by have := congrArg Prod.fst hyx; simpa using this
      have hx' : x = items2[i] := by have := congrArg Prod.snd hyx; simpa using this
      subst hy' hx'
      have h1x := hxi i h1
      have h2y := hyi i h2
      rw [List.drop_eq_getElem_cons h1x, List.drop_eq_getElem_cons h2y, lexA] at hR
      have ha : AtomIs xs[i] items[i] := paired_at hx i _ _ (List.getElem?_eq_getElem _) (by simp [h1])
      have hc' : AtomIs ys[i] items2[i] := paired_at hy i _ _ (List.getElem?_eq_getElem _) (by simp [h2])
      generalize xs[i] = a at ha hR
      generalize ys[i] = c at hc' hR
      refine wpAny_bind (atom_eqAt ha hc' prog w _ _ ?_)
      cases hq : atomEq a c with
      | true =>
        rw [hq, if_pos rfl] at hR
        wp_walk
        exact ⟨rfl, rfl, i + 1, hrest, h1, h2, hR⟩
      | false =>
        rw [hq, if_neg Bool.false_ne_true] at hR
        generalize hPI : richCompare = RC
        wp_walk
        subst hPI
        refine atom_lt ha hc' hR ?_
        wp_walk
        exact ⟨_, rfl, h⟩
    case fin =>
      rintro ⟨b1, b2⟩ s' ⟨hb', rfl, i, hz, hi1, hi2, hR⟩
      simp only at hb'
      subst hb'
      have hge : min items.size items2.size ≤ i := by
        rcases Nat.lt_or_ge i (items.toList.zip items2.toList).length with h' | h'
        · rw [List.drop_eq_getElem_cons h'] at hz; cases hz
        · exact hZ ▸ h'
      have e := fin i hi1 hi2 hge hR
      wp_walk
      refine ⟨_, rfl, ?_⟩
      show R (.ok (.ret (.bool (decide (items.size < items2.size))))) _
      rw [e]; exact h
    case h =>
      exact ⟨rfl, rfl, 0, rfl, Nat.zero_le _, Nat.zero_le _, hr⟩

theorem tuple_gt (l b : Addr) (items items2 : Array Value) (n n2 : Nat) (dd dd2 : Option Addr) (sl sl2 : Array (Option Value)) (xs ys : List Atom) (hx : Paired AtomIs xs items.toList) (hy : Paired AtomIs ys items2.toList) (r : Bool) (hr : lexA false xs ys = some r) :
    Meets (Builtin.«tuple.__gt__» ⟨[.ref l, .ref b], []⟩)
      (fun A R s => s.heap.get? l = some { cls := .type "tuple", dict := dd, data := .seq items n, slots := sl } ∧ s.heap.get? b = some { cls := .type "tuple", dict := dd2, data := .seq items2 n2, slots := sl2 } ∧
        R (.ok (.ret (.bool r))) s) :=
  .of_wp fun prog w A R s h => by
    have lx : xs.length = items.size := hx.length.trans Array.length_toList
    have ly : ys.length = items2.size := hy.length.trans Array.length_toList
    have hxi : ∀ i, i < items.size → i < xs.length := fun i hi => by omega
    have hyi : ∀ i, i < items2.size → i < ys.length := fun i hi => by omega
    have fin : ∀ i, i ≤ items.size → i ≤ items2.size → min items.size items2.size ≤ i → lexA false (xs.drop i) (ys.drop i) = some r → (decide (items.size > items2.size) : Bool) = r := fun i h1 h2 h3 h4 => by
      rcases Nat.lt_or_ge i xs.length with hlt | hge
      · rw [List.drop_eq_getElem_cons hlt, List.drop_eq_nil_of_le (by omega : ys.length ≤ i)] at h4
        have e : r = !false := by simpa [lexA] using h4.symm
        rw [e]; simp; omega
      · rw [List.drop_eq_nil_of_le hge] at h4
        rcases Nat.lt_or_ge i ys.length with hlt | hge2
        · rw [List.drop_eq_getElem_cons hlt] at h4
          have e : r = false := by simpa [lexA] using h4.symm
          rw [e]; simp; omega
        · rw [List.drop_eq_nil_of_le hge2] at h4
          have e : r = false := by simpa [lexA] using h4.symm
          rw [e]; simp; omega
    obtain ⟨hp, g, d, tk, os⟩ := s; obtain ⟨hl, hb, h⟩ := h
    have f2 := AutoSeq1.sub_tuple_tuple
    have hZ : (items.toList.zip items2.toList).length = min items.size items2.size := by simp
    wp_walk using wpAny_loadPart' hl, wpAny_loadPart' hb, wpAny_forIn_list _ (fun rest b s' => b.1 = none ∧ s' = ⟨hp, g, d, tk, os⟩ ∧ ∃ i, rest = (items.toList.zip items2.toList).drop i ∧ i ≤ items.size ∧ i ≤ items2.size ∧
      lexA false (xs.drop i) (ys.drop i) = some r) _
    case turn =>
      rintro ⟨y, x⟩ rest b s' ⟨hb', rfl, i, hz, hi1, hi2, hR⟩
      have hlt : i < (items.toList.zip items2.toList).length := by
        rcases Nat.lt_or_ge i (items.toList.zip items2.toList).length with h' | h'
        · exact h'
        · rw [List.drop_of_length_le h'] at hz; cases hz
      have hm : i < min items.size items2.size := hZ ▸ hlt
      have h1 : i < items.size := Nat.lt_of_lt_of_le hm (Nat.min_le_left _ _)
      have h2 : i < items2.size := Nat.lt_of_lt_of_le hm (Nat.min_le_right _ _)
      rw [List.drop_eq_getElem_cons hlt] at hz
      injection hz with hyx hrest
      have hy' : y = items[i] := by have := congrArg Prod.fst hyx; simpa using this
      have hx' : x = items2[i] := by have := congrArg Prod.snd hyx; simpa using this
      subst hy' hx'
      have h1x := hxi i h1
      have h2y := hyi i h2
      rw [List.drop_eq_getElem_cons h1x, List.drop_eq_getElem_cons h2y, lexA] at hR
      have ha : AtomIs xs[i] items[i] := paired_at hx i _ _ (List.getElem?_eq_getElem _) (by simp [h1])
      have hc' : AtomIs ys[i] items2[i] := paired_at hy i _ _ (List.getElem?_eq_getElem _) (by simp [h2])
      generalize xs[i] = a at ha hR
      generalize ys[i] = c at hc' hR
      refine wpAny_bind (atom_eqAt ha hc' prog w _ _ ?_)
      cases hq : atomEq a c with
      | true =>
        rw [hq, if_pos rfl] at hR
        wp_walk
        exact ⟨rfl, rfl, i + 1, hrest, h1, h2, hR⟩
      | false =>
        rw [hq, if_neg Bool.false_ne_true] at hR
        generalize hPI : richCompare = RC
        wp_walk
        subst hPI
        refine atom_gt ha hc' hR ?_
        wp_walk
        exact ⟨_, rfl, h⟩
    case fin =>
      rintro ⟨b1, b2⟩ s' ⟨hb', rfl, i, hz, hi1, hi2, hR⟩
      simp only at hb'
      subst hb'
      have hge : min items.size items2.size ≤ i := by
        rcases Nat.lt_or_ge i (items.toList.zip items2.toList).length with h' | h'
        · rw [List.drop_eq_getElem_cons h'] at hz; cases hz
        · exact hZ ▸ h'
      have e := fin i hi1 hi2 hge hR
      wp_walk
      refine ⟨_, rfl, ?_⟩
      show R (.ok (.ret (.bool (decide (items.size > items2.size))))) _
      rw [e]; exact h
    case h =>
      exact ⟨rfl, rfl, 0, rfl, Nat.zero_le _, Nat.zero_le _, hr⟩
section
variable {prog : Program} {w : World} {A : Around} {E : Value → Shared → Prop} {s : Shared}
theorem list_lt_at {l b : Addr} {items items2 : Array Value} {xs ys : List Atom} {r : Bool} {Q : Value → Shared → Prop} (hl : s.heap.IsList l items) (hb : s.heap.IsList b items2) (hu : A.units ≤ 100) (hx : Paired AtomIs xs items.toList) (hy : Paired AtomIs ys items2.toList)
    (hr : lexA true xs ys = some r) (h : Q (.bool r) s) : wpAny (model prog w) A (compareOp .Lt (.ref l) (.ref b)) Q E s := by
  obtain ⟨⟨cls, dd, data, sl⟩, ho, hc, n, hd⟩ := id hl
  obtain ⟨⟨cls2, dd2, data2, sl2⟩, ho2, hc2, n2, hd2⟩ := id hb
  simp only at hc hd hc2 hd2
  subst hc hd hc2 hd2
  exact richCompare_meets_room (op := .Lt) ⟨_, ho, rfl⟩ ⟨_, ho2, rfl⟩ F.slot_list_lt F.entry_list_lt (F.args_list_lt_2 _ _) (list_lt l b items items2 n n2 dd dd2 sl sl2 xs ys hx hy r hr)
    ⟨ho, ho2, show Value.bool r ≠ Value.notImplemented ∧ Q (.bool r) s from ⟨(fun x => nomatch x), h⟩⟩ (by unfold cLine; omega)
theorem list_gt_at {l b : Addr} {items items2 : Array Value} {xs ys : List Atom} {r : Bool} {Q : Value → Shared → Prop} (hl : s.heap.IsList l items) (hb : s.heap.IsList b items2) (hu : A.units ≤ 100) (hx : Paired AtomIs xs items.toList) (hy : Paired AtomIs ys items2.toList)
    (hr : lexA false xs ys = some r) (h : Q (.bool r) s) : wpAny (model prog w) A (compareOp .Gt (.ref l) (.ref b)) Q E s := by
  obtain ⟨⟨cls, dd, data, sl⟩, ho, hc, n, hd⟩ := id hl
  obtain ⟨⟨cls2, dd2, data2, sl2⟩, ho2, hc2, n2, hd2⟩ := id hb
  simp only at hc hd hc2 hd2
  subst hc hd hc2 hd2
  exact richCompare_meets_room (op := .Gt) ⟨_, ho, rfl⟩ ⟨_, ho2, rfl⟩ F.slot_list_gt F.entry_list_gt (F.args_list_gt_2 _ _) (list_gt l b items items2 n n2 dd dd2 sl sl2 xs ys hx hy r hr)
    ⟨ho, ho2, show Value.bool r ≠ Value.notImplemented ∧ Q (.bool r) s from ⟨(fun x => nomatch x), h⟩⟩ (by unfold cLine; omega)
theorem tuple_lt_at {l b : Addr} {items items2 : Array Value} {xs ys : List Atom} {r : Bool} {Q : Value → Shared → Prop} (hl : s.heap.IsTuple l items) (hb : s.heap.IsTuple b items2) (hu : A.units ≤ 100) (hx : Paired AtomIs xs items.toList) (hy : Paired AtomIs ys items2.toList)
    (hr : lexA true xs ys = some r) (h : Q (.bool r) s) : wpAny (model prog w) A (compareOp .Lt (.ref l) (.ref b)) Q E s := by
  obtain ⟨⟨cls, dd, data, sl⟩, ho, hc, n, hd⟩ := id hl
  obtain ⟨⟨cls2, dd2, data2, sl2⟩, ho2, hc2, n2, hd2⟩ := id hb
  simp only at hc hd hc2 hd2
  subst hc hd hc2 hd2
  exact richCompare_meets_room (op := .Lt) ⟨_, ho, rfl⟩ ⟨_, ho2, rfl⟩ F.slot_tuple_lt F.entry_tuple_lt (F.args_tuple_lt_2 _ _) (tuple_lt l b items items2 n n2 dd dd2 sl sl2 xs ys hx hy r hr)
    ⟨ho, ho2, show Value.bool r ≠ Value.notImplemented ∧ Q (.bool r) s from ⟨(fun x => nomatch x), h⟩⟩ (by unfold cLine; omega)
theorem tuple_gt_at {l b : Addr} {items items2 : Array Value} {xs ys : List Atom} {r : Bool} {Q : Value → Shared → Prop} (hl : s.heap.IsTuple l items) (hb : s.heap.IsTuple b items2) (hu : A.units ≤ 100) (hx : Paired AtomIs xs items.toList) (hy : Paired AtomIs ys items2.toList)
    (hr : lexA false xs ys = some r) (h : Q (.bool r) s) : wpAny (model prog w) A (compareOp .Gt (.ref l) (.ref b)) Q E s := by
  obtain ⟨⟨cls, dd, data, sl⟩, ho, hc, n, hd⟩ := id hl
  obtain ⟨⟨cls2, dd2, data2, sl2⟩, ho2, hc2, n2, hd2⟩ := id hb
  simp only at hc hd hc2 hd2
  subst hc hd hc2 hd2
  exact richCompare_meets_room (op := .Gt) ⟨_, ho, rfl⟩ ⟨_, ho2, rfl⟩ F.slot_tuple_gt F.entry_tuple_gt (F.args_tuple_gt_2 _ _) (tuple_gt l b items items2 n n2 dd dd2 sl sl2 xs ys hx hy r hr)
    ⟨ho, ho2, show Value.bool r ≠ Value.notImplemented ∧ Q (.bool r) s from ⟨(fun x => nomatch x), h⟩⟩ (by unfold cLine; omega)
def eqA (xs ys : List Atom) : Bool := xs.length == ys.length && (List.range xs.length).all fun j => atomEq (xs.getD j (.int 0)) (ys.getD j (.int 0))
theorem list_eq_at {l b : Addr} {items items2 : Array Value} {xs ys : List Atom} {Q : Value → Shared → Prop} (hl : s.heap.IsList l items) (hb : s.heap.IsList b items2) (hu : A.units ≤ 100) (hx : Paired AtomIs xs items.toList) (hy : Paired AtomIs ys items2.toList)
    (h : Q (.bool (eqA xs ys)) s) : wpAny (model prog w) A (compareOp .Eq (.ref l) (.ref b)) Q E s := by
  have lx : xs.length = items.size := hx.length.trans Array.length_toList
  have ly : ys.length = items2.size := hy.length.trans Array.length_toList
  have hu' : A.units < cLine := by unfold cLine; omega
  unfold eqA at h
  by_cases hsz : items.size = items2.size
  · refine RcAt.lists (e := fun j => atomEq (xs.getD j (.int 0)) (ys.getD j (.int 0))) hl hb hsz hu' (fun j h1 h2 => ?_) prog w E Q ?_
    · refine atom_eqAt (paired_at hx j _ _ ?_ (by simp [h1])) (paired_at hy j _ _ ?_ (by simp [h2]))
      · rw [List.getD_eq_getElem?_getD, List.getElem?_eq_getElem (by omega)]; rfl
      · rw [List.getD_eq_getElem?_getD, List.getElem?_eq_getElem (by omega)]; rfl
    · rw [show (xs.length == ys.length) = true by rw [lx, ly, hsz]; simp, Bool.true_and, lx] at h
      exact h
  · refine RcAt.lists_lengths hl hb (by simp [hsz]) hu' prog w E Q ?_
    rw [show (xs.length == ys.length) = false by rw [lx, ly]; simp [hsz], Bool.false_and] at h
    exact h
theorem tuple_eq_at {l b : Addr} {items items2 : Array Value} {xs ys : List Atom} {Q : Value → Shared → Prop} (hl : s.heap.IsTuple l items) (hb : s.heap.IsTuple b items2) (hu : A.units ≤ 100) (hx : Paired AtomIs xs items.toList) (hy : Paired AtomIs ys items2.toList)
    (h : Q (.bool (eqA xs ys)) s) : wpAny (model prog w) A (compareOp .Eq (.ref l) (.ref b)) Q E s := by
  have lx : xs.length = items.size := hx.length.trans Array.length_toList
  have ly : ys.length = items2.size := hy.length.trans Array.length_toList
  have hu' : A.units < cLine := by unfold cLine; omega
  unfold eqA at h
  refine RcAt.tuples (e := fun j => atomEq (xs.getD j (.int 0)) (ys.getD j (.int 0))) hl hb hu' (fun j h1 h2 => ?_) prog w E Q ?_
  · refine atom_eqAt (paired_at hx j _ _ ?_ (by simp [h1])) (paired_at hy j _ _ ?_ (by simp [h2]))
    · rw [List.getD_eq_getElem?_getD, List.getElem?_eq_getElem (by omega)]; rfl
    · rw [List.getD_eq_getElem?_getD, List.getElem?_eq_getElem (by omega)]; rfl
  · rw [lx, ly, Bool.and_comm] at h
    by_cases hsz : items.size = items2.size
    · rw [← hsz, Nat.min_self]; rw [← hsz] at h; exact h
    · rw [show (items.size == items2.size) = false by simp [hsz], Bool.and_false] at h ⊢; exact h
end
end
section
open PySem PySem.W PyProof.Rows PyProof.V PySem.Spec PySem.Calls
open PySem.AutoSeq1 (wpAny_loadPart')
theorem entry_set_lt : entryFor table "set.__lt__" = some Builtin.«frozenset.__lt__» := entryFor_alias (id' := "frozenset.__lt__") (by rw [fastTable_eq_tree]; kernel_rfl) rfl (by decide +kernel) (by rw [fastTable_eq_tree]; kernel_rfl)
theorem entry_set_gt : entryFor table "set.__gt__" = some Builtin.«frozenset.__gt__» := entryFor_alias (id' := "frozenset.__gt__") (by rw [fastTable_eq_tree]; kernel_rfl) rfl (by decide +kernel) (by rw [fastTable_eq_tree]; kernel_rfl)
theorem entry_set_eq : entryFor table "set.__eq__" = some Builtin.«frozenset.__eq__» := entryFor_alias (id' := "frozenset.__eq__") (by rw [fastTable_eq_tree]; kernel_rfl) rfl (by decide +kernel) (by rw [fastTable_eq_tree]; kernel_rfl)
section
variable {prog : Program} {w : World} {A : Around} {E : Value → Shared → Prop} {s : Shared}
theorem quiet_int {n : Int} {t : Tok} {Q : Bool → Shared → Prop} (h : Q true s) : wpAny (model prog w) A (Builtin.Frozenset.quietEq (.int n t)) Q E s := by
  unfold Builtin.Frozenset.quietEq
  wp_walk
  exact h
theorem elems_int {es : List (Int × Value)} (hel : ElemsOf (intKind prog w) es) : ∀ e ∈ es, ∃ n t, e.2 = .int n t := fun e he => by
  obtain ⟨⟨k, hk, _⟩, _⟩ := hel e he
  obtain ⟨t, ht⟩ := Value.isInt_shape hk
  exact ⟨k, t, ht⟩
theorem walk_unseen {a b : Addr} {Sa Sb : Int → Bool} {n m : Nat} {Q : List (Int × Value) → Shared → Prop} (hA : s.heap.SetOf (intKind prog w) a Sa n) (hB : s.heap.SetOf (intKind prog w) b Sb m)
    (h : ∀ o es ep t, s.heap.get? a = some o → o.data = .set es ep t → ElemsOf (intKind prog w) es.toList → (∀ k, Sa k = true ↔ ∃ e ∈ es.toList, (intKind prog w).is k e.2 = true) → t.fits es.size = true → Q es.toList s) :
    wpAny (model prog w) A (Builtin.Frozenset.walkUnseen a b) Q E s := by
  obtain ⟨o, es, ep, t, ho, hex, hd, hel, hmem, hb, hf, hn⟩ := hA
  obtain ⟨o2, es2, ep2, t2, ho2, hex2, hd2, hel2, hmem2, hb2, hf2, hn2⟩ := hB
  unfold Builtin.Frozenset.walkUnseen
  refine wpAny_bind (wpAny_setEntries_of ho hd hf ?_)
  refine wpAny_bind (wpAny_setEntries_of ho2 hd2 hf2 ?_)
  refine wpAny_bind (wpAny_forIn_list _ (fun rest b s' => b.1 = none ∧ s' = s ∧ ∀ e ∈ rest, ∃ n t, e.2 = .int n t) _ ?turn ?fin _ _ ?h)
  case h =>
    refine ⟨rfl, rfl, fun e he => ?_⟩
    rcases List.mem_append.mp he with he | he
    · exact elems_int hel e he
    · exact elems_int hel2 e he
  case turn =>
    rintro ⟨h1, x⟩ rest b s' ⟨hb', rfl, hall⟩
    obtain ⟨n1, t1, e⟩ := hall _ (.head _)
    dsimp only at e
    subst e
    refine wpAny_bind (quiet_int ?_)
    wp_walk
    exact ⟨rfl, rfl, fun e he => hall e (.tail _ he)⟩
  case fin =>
    rintro ⟨b1, b2⟩ s' ⟨hb', rfl, _⟩
    simp only at hb'
    subst hb'
    exact wpAny_pure (h o es ep t ho hd hel hmem hf)
theorem subset_yes {id : String} {a b : Addr} {Sa Sb : Int → Bool} {n m : Nat} {Q : Bool → Shared → Prop} (hA : s.heap.SetOf (intKind prog w) a Sa n) (hB : s.heap.SetOf (intKind prog w) b Sb m) (hnm : n ≤ m) (hsub : ∀ k, Sa k = true → Sb k = true)
    (h : Q true s) : wpAny (model prog w) A (Builtin.Frozenset.subsetOf id a b) Q E s := by
  obtain ⟨o, es, ep, t, ho, hex, hd, hel, hmem, hb, hf, hn⟩ := (show _ from hA)
  obtain ⟨o2, es2, ep2, t2, ho2, hex2, hd2, hel2, hmem2, hb2, hf2, hn2⟩ := (show _ from hB)
  unfold Builtin.Frozenset.subsetOf Builtin.Frozenset.sizeOf
  refine wpAny_bind (wpAny_bind (wpAny_setEntries_of ho hd hf (wpAny_pure ?_)))
  refine wpAny_bind (wpAny_bind (wpAny_setEntries_of ho2 hd2 hf2 (wpAny_pure ?_)))
  rw [if_neg (by omega)]
  refine wpAny_bind (wpAny_setEpoch_of ho hd hf ?_)
  refine wpAny_bind (walk_unseen hA hB fun o' es' ep' t' ho' hd' hel' hmem' hf' => ?_)
  refine wpAny_bind (wpAny_forIn_list _ (fun rest b s' => b.1 = none ∧ s' = s ∧ ∀ e ∈ rest, e ∈ es'.toList) _ ?turn ?fin _ _ ?h)
  case h => exact ⟨rfl, rfl, fun e he => he⟩
  case turn =>
    rintro ⟨h1, x⟩ rest b s' ⟨hb', rfl, hall⟩
    have hm := hall _ (.head _)
    obtain ⟨⟨k, hk, hh⟩, hsc⟩ := hel' _ hm
    dsimp only at hk hh hsc
    subst hh
    have hS := hsub k ((hmem' k).mpr ⟨_, hm, hk⟩)
    refine wpAny_bind (wpAny_holding (wpAny_setFind_of hk hsc hB fun r hr => ?_))
    rw [hS] at hr
    obtain ⟨j, rfl⟩ := Option.isSome_iff_exists.mp hr
    dsimp only
    rw [if_neg (by simp)]
    unfold Builtin.Frozenset.unchanged
    refine wpAny_bind (wpAny_bind (wpAny_setEpoch_of ho hd hf ?_))
    rw [if_neg (by simp)]
    exact wpAny_pure (wpAny_pure ⟨rfl, rfl, fun e he => hall e (.tail _ he)⟩)
  case fin =>
    rintro ⟨b1, b2⟩ s' ⟨hb', rfl, _⟩
    simp only at hb'
    subst hb'
    exact wpAny_pure h
theorem size_of {a : Addr} {Sa : Int → Bool} {n : Nat} {Q : Nat → Shared → Prop} (hA : s.heap.SetOf (intKind prog w) a Sa n) (h : Q n s) : wpAny (model prog w) A (Builtin.Frozenset.sizeOf a) Q E s := by
  obtain ⟨o, es, ep, t, ho, hex, hd, hel, hmem, hb, hf, rfl⟩ := hA
  unfold Builtin.Frozenset.sizeOf
  exact wpAny_bind (wpAny_setEntries_of ho hd hf (wpAny_pure h))
theorem sub_set_set : isSubtype (.type "set") (.type "set") = pure true := by rw [isSubtype_type]; kernel_rfl
theorem any_set {a : Addr} {Sa : Int → Bool} {n : Nat} {Q : Bool → Shared → Prop} (hA : s.heap.SetOf (intKind prog w) a Sa n) (h : Q true s) : wpAny (model prog w) A (Builtin.Frozenset.isAnySet (.ref a)) Q E s := by
  unfold Builtin.Frozenset.isAnySet
  have hT := hA.typeIs
  refine wpAny_bind (wpAny_isInstance hT sub_set_set ?_)
  wp_walk
  exact h
end
theorem fits_no {t : SetTable} {n : Nat} (hf : t.fits n = true) : (t.place.size != n || decide (t.fill > t.mask)) = false := by
  simp only [SetTable.fits, Bool.and_eq_true, beq_iff_eq, decide_eq_true_eq] at hf
  simp [hf.1, Nat.not_lt.mpr hf.2]
theorem sub_set_frozen : isSubtype (.type "set") (.type "frozenset") = pure false := by rw [isSubtype_type]; kernel_rfl
theorem set_lt {a b : Addr} {Sa Sb : Int → Bool} {n m : Nat} (hsub : n < m → ∀ k, Sa k = true → Sb k = true) :
    Meets (Builtin.«frozenset.__lt__» ⟨[.ref a, .ref b], []⟩) (fun A R s => (∃ p w, s.heap.SetOf (intKind p w) a Sa n ∧ s.heap.SetOf (intKind p w) b Sb m) ∧ R (.ok (.ret (.bool (decide (n < m))))) s) := by
  intro prog w A R s ⟨⟨p, w', hA', hB'⟩, h⟩
  have hA : s.heap.SetOf (intKind prog w) a Sa n := hA'
  have hB : s.heap.SetOf (intKind prog w) b Sb m := hB'
  clear hA' hB'
  unfold Builtin.«frozenset.__lt__»
  wp_delta
  refine wpAny_bind (wpAny_of_eq (a := (Value.ref a, Value.ref b)) rfl ?_)
  try dsimp only
  refine wpAny_bind (any_set hB ?_)
  rw [if_neg (by decide)]
  refine wpAny_bind (wpAny_of_eq (a := a) rfl ?_)
  refine wpAny_bind (wpAny_of_eq (a := b) rfl ?_)
  refine wpAny_bind (size_of hA ?_)
  refine wpAny_bind (size_of hB ?_)
  try dsimp only
  by_cases hnm : n < m
  · have hs := hsub hnm
    rw [decide_eq_true hnm] at h
    rw [if_neg (by omega)]
    exact wpAny_bind (subset_yes hA hB (by omega) hs (wpAny_pure h))
  · rw [decide_eq_false hnm] at h
    rw [if_pos (by omega)]
    exact wpAny_pure h
theorem set_gt {a b : Addr} {Sa Sb : Int → Bool} {n m : Nat} (hsub : m < n → ∀ k, Sb k = true → Sa k = true) :
    Meets (Builtin.«frozenset.__gt__» ⟨[.ref a, .ref b], []⟩) (fun A R s => (∃ p w, s.heap.SetOf (intKind p w) a Sa n ∧ s.heap.SetOf (intKind p w) b Sb m) ∧ R (.ok (.ret (.bool (decide (m < n))))) s) := by
  intro prog w A R s ⟨⟨p, w', hA', hB'⟩, h⟩
  have hA : s.heap.SetOf (intKind prog w) a Sa n := hA'
  have hB : s.heap.SetOf (intKind prog w) b Sb m := hB'
  clear hA' hB'
  unfold Builtin.«frozenset.__gt__»
  wp_delta
  refine wpAny_bind (wpAny_of_eq (a := (Value.ref a, Value.ref b)) rfl ?_)
  try dsimp only
  refine wpAny_bind (any_set hB ?_)
  rw [if_neg (by decide)]
  refine wpAny_bind (wpAny_of_eq (a := a) rfl ?_)
  refine wpAny_bind (wpAny_of_eq (a := b) rfl ?_)
  refine wpAny_bind (size_of hA ?_)
  refine wpAny_bind (size_of hB ?_)
  try dsimp only
  by_cases hnm : m < n
  · have hs := hsub hnm
    rw [decide_eq_true hnm] at h
    rw [if_neg (by omega)]
    exact wpAny_bind (subset_yes hB hA (by omega) hs (wpAny_pure h))
  · rw [decide_eq_false hnm] at h
    rw [if_pos (by omega)]
    exact wpAny_pure h
theorem set_eq {a b : Addr} {Sa Sb : Int → Bool} {n m : Nat} (hsub : n = m → ∀ k, Sa k = true → Sb k = true) :
    Meets (Builtin.«frozenset.__eq__» ⟨[.ref a, .ref b], []⟩) (fun A R s => (∃ p w, s.heap.SetOf (intKind p w) a Sa n ∧ s.heap.SetOf (intKind p w) b Sb m) ∧ R (.ok (.ret (.bool (decide (n = m))))) s) := by
  intro prog w A R s ⟨⟨p, w', hA', hB'⟩, h⟩
  have hA : s.heap.SetOf (intKind prog w) a Sa n := hA'
  have hB : s.heap.SetOf (intKind prog w) b Sb m := hB'
  clear hA' hB'
  unfold Builtin.«frozenset.__eq__»
  wp_delta
  refine wpAny_bind (wpAny_of_eq (a := (Value.ref a, Value.ref b)) rfl ?_)
  try dsimp only
  refine wpAny_bind (any_set hB ?_)
  rw [if_neg (by decide)]
  refine wpAny_bind (wpAny_of_eq (a := a) rfl ?_)
  refine wpAny_bind (wpAny_of_eq (a := b) rfl ?_)
  refine wpAny_bind (size_of hA ?_)
  refine wpAny_bind (size_of hB ?_)
  try dsimp only
  by_cases hnm : n = m
  · have hs := hsub hnm
    rw [decide_eq_true hnm] at h
    rw [if_neg (by simp [hnm])]
    refine wpAny_bind (wpAny_bind (wpAny_bind (wpAny_isInstance hA.typeIs sub_set_frozen ?_)))
    show wpAny _ _ (pure false) _ _ _
    refine wpAny_pure ?_
    rw [if_neg Bool.false_ne_true]
    exact subset_yes hA hB (by omega) hs (wpAny_pure h)
  · rw [decide_eq_false hnm] at h
    rw [if_pos (by simp [hnm])]
    exact wpAny_bind (wpAny_pure (wpAny_pure h))
section
variable {prog : Program} {w : World} {A : Around} {E : Value → Shared → Prop} {s : Shared}
theorem set_lt_at {a b : Addr} {Sa Sb : Int → Bool} {n m : Nat} {Q : Value → Shared → Prop} (hA : s.heap.SetOf (intKind prog w) a Sa n) (hB : s.heap.SetOf (intKind prog w) b Sb m) (hu : A.units ≤ 100) (hsub : n < m → ∀ k, Sa k = true → Sb k = true)
    (h : Q (.bool (decide (n < m))) s) : wpAny (model prog w) A (compareOp .Lt (.ref a) (.ref b)) Q E s :=
  richCompare_meets_room (op := .Lt) hA.typeIs hB.typeIs F.slot_set_lt entry_set_lt (F.args_set_lt_2 _ _) (set_lt hsub) ⟨⟨prog, w, hA, hB⟩, show Value.bool (decide (n < m)) ≠ Value.notImplemented ∧ Q (.bool (decide (n < m))) s from ⟨(fun x => nomatch x), h⟩⟩ (by unfold cLine; omega)
theorem set_gt_at {a b : Addr} {Sa Sb : Int → Bool} {n m : Nat} {Q : Value → Shared → Prop} (hA : s.heap.SetOf (intKind prog w) a Sa n) (hB : s.heap.SetOf (intKind prog w) b Sb m) (hu : A.units ≤ 100) (hsub : m < n → ∀ k, Sb k = true → Sa k = true)
    (h : Q (.bool (decide (m < n))) s) : wpAny (model prog w) A (compareOp .Gt (.ref a) (.ref b)) Q E s :=
  richCompare_meets_room (op := .Gt) hA.typeIs hB.typeIs F.slot_set_gt entry_set_gt (F.args_set_gt_2 _ _) (set_gt hsub) ⟨⟨prog, w, hA, hB⟩, show Value.bool (decide (m < n)) ≠ Value.notImplemented ∧ Q (.bool (decide (m < n))) s from ⟨(fun x => nomatch x), h⟩⟩ (by unfold cLine; omega)
theorem set_eq_at {a b : Addr} {Sa Sb : Int → Bool} {n m : Nat} {Q : Value → Shared → Prop} (hA : s.heap.SetOf (intKind prog w) a Sa n) (hB : s.heap.SetOf (intKind prog w) b Sb m) (hu : A.units ≤ 100) (hsub : n = m → ∀ k, Sa k = true → Sb k = true)
    (h : Q (.bool (decide (n = m))) s) : wpAny (model prog w) A (compareOp .Eq (.ref a) (.ref b)) Q E s :=
  richCompare_meets_room (op := .Eq) hA.typeIs hB.typeIs F.slot_set_eq entry_set_eq (F.args_set_eq_2 _ _) (set_eq hsub) ⟨⟨prog, w, hA, hB⟩, show Value.bool (decide (n = m)) ≠ Value.notImplemented ∧ Q (.bool (decide (n = m))) s from ⟨(fun x => nomatch x), h⟩⟩ (by unfold cLine; omega)
end
end
section
open PySem PySem.W PyProof.Rows PyProof.V PySem.Spec PySem.Calls
theorem sub_range_set : isSubtype (.type "range") (.type "set") = pure false := by rw [isSubtype_type]; kernel_rfl
theorem sub_range_frozenset : isSubtype (.type "range") (.type "frozenset") = pure false := by rw [isSubtype_type]; kernel_rfl
theorem range_size (n : Nat) : Builtin.Range.rangeSize 0 (n : Int) 1 = ((n : Nat) : Int) := by
  unfold Builtin.Range.rangeSize
  simp only [gt_iff_lt, Int.zero_lt_one, if_true, Int.ediv_one]
  split <;> omega
theorem range_small0 {b : Int} (hb0 : 0 ≤ b) (hb1 : b ≤ 1000) : Builtin.Range.small 0 b 1 = true := by
  have hsz : Builtin.Range.rangeSize 0 b 1 = ((b.toNat : Nat) : Int) := by
    unfold Builtin.Range.rangeSize
    simp only [gt_iff_lt, Int.zero_lt_one, if_true, Int.ediv_one]
    split <;> omega
  unfold Builtin.Range.small
  rw [hsz]
  simp only [Builtin.Range.rangeFitsLong, Bool.and_eq_true, Bool.or_eq_true, decide_eq_true_eq, gt_iff_lt, Int.zero_lt_one, if_true]
  omega
theorem range_small {n : Nat} (hb : n ≤ 1000) : Builtin.Range.small 0 (n : Int) 1 = true := range_small0 (by omega) (by omega)
theorem range_it (h : Heap) (n : Nat) : IsRangeIter (h.push { cls := .type "range_iterator", data := .fields #[rawInt 0, rawInt (Builtin.Range.rangeSize 0 (n : Int) 1), rawInt 1] }) h.objs.size (0 + ((0 : Nat) : Int) * 1) ((n : Int) - ((0 : Nat) : Int)) 1 := by
  show _ = _
  rw [range_size]
  simpa using Heap.get?_push_size _ rfl
theorem first_all (n : Nat) : firstMet (fun (i : Nat) => 0 + (i : Int) * 1) n = (List.range n).map fun (i : Nat) => 0 + (i : Int) * 1 := by
  induction n with
  | zero => rfl
  | succ n ih =>
    rw [firstMet_succ, ih]
    unfold step_dedup
    rw [if_neg, List.range_succ, List.map_append]
    · rfl
    · intro hc
      obtain ⟨x, hx, e⟩ := List.any_eq_true.mp hc
      obtain ⟨j, hj, rfl⟩ := List.mem_map.mp hx
      have := List.mem_range.mp hj
      have e' := eq_of_beq e
      omega
section
variable {prog : Program} {w : World} {A : Around} {E : Value → Shared → Prop} {s : Shared}
set_option maxRecDepth 100000 in
set_option maxHeartbeats 3200000 in
theorem call_set_range {r : Addr} {n : Nat} {t u v : Tok} {Q : Value → Shared → Prop}
    (hh : A.handled = none) (hr : IsRange s.heap r 0 (n : Int) 1 t u v) (hb : n ≤ 1000)
    (h : ∀ (h' : Heap) (tk : Nat), h'.SetOf (intKind prog w) s.heap.objs.size (fun k' => decide (0 ≤ k' ∧ k' < (n : Int))) n →
      (∀ b o, s.heap.get? b = some o → h'.get? b = some o) → Q (.ref s.heap.objs.size) { s with heap := h', toks := tk }) :
    wpAny (model prog w) A (call (.type "set") [.ref r]) Q E s := by
  obtain ⟨c, tl, hmro⟩ := F.called_set.mro
  have hmade := F.called_set.made
  have hsub := F.called_set.sub
  refine wpAny_call (codeAny_of_tree ?_)
  show wpAny _ _ (callAny (.type "set") _) _ _ _
  refine wpAny_pure ⟨Code.quiet_builtin _ (by decide +kernel), codeAny_builtin F.entry_type_call ?_⟩
  rw [Around.under_plain (weight_type_call_type "set" [.ref r] []) rfl]
  have h1 := F.called_set.notType
  have h2 := F.called_set.canCreate
  have hct := PySem.F.typeCall_set_1 (.ref r)
  repeat (any_goals (first | assumption | wp_step))
  refine codeAny_mono (code_set_new_1 (.ref r) (E := E) (Q₁ := fun obj s₁ => ∃ led : Bool, obj = .ref s.heap.objs.size ∧ s₁ = { s with heap := s.heap.push { cls := .type "set", dict := none, data := .set #[] 0 (.fresh 0 0 led) } }) fun led => ⟨led, rfl, rfl⟩) fun r' s₁ hr' => ?_
  cases r' with
  | error e => exact hr'
  | ok fl =>
    cases fl with
    | ret obj =>
      obtain ⟨led, rfl, rfl⟩ := hr'
      have hS : (s.heap.push { cls := .type "set", dict := none, data := .set #[] 0 (.fresh 0 0 led) }).get? s.heap.objs.size = some { cls := .type "set", dict := none, data := .set #[] 0 (.fresh 0 0 led) } := Heap.get?_push_size _ rfl
      have hT : Shared.TypeIs { s with heap := s.heap.push { cls := .type "set", dict := none, data := .set #[] 0 (.fresh 0 0 led) } } (.ref s.heap.objs.size) "set" := ⟨_, hS, rfl⟩
      have hli := F.called_set.init.lookup
      have hbi := F.called_set.init.bind (.ref s.heap.objs.size)
      repeat (any_goals (first | assumption | wp_step))
      refine codeAny_mono (codeAny_call_builtin (R := wants (fun r₁ s₂ => r₁ = .none ∧ ∃ h' tk, s₂ = { s with heap := h', toks := tk } ∧
          h'.SetOf (intKind prog w) s.heap.objs.size (fun k' => (firstMet (fun (i : Nat) => 0 + (i : Int) * 1) n).any (· == k')) (firstMet (fun (i : Nat) => 0 + (i : Int) * 1) n).length ∧
          (∀ b o, s.heap.get? b = some o → h'.get? b = some o)) E) F.called_set.init.plain F.entry_set_init (check_set_init_1 hT ?_)) fun r₂ s₂ hr₂ => ?_
      · have hol' : IsRange (s.heap.push { cls := .type "set", dict := none, data := .set #[] 0 (.fresh 0 0 led) }) r 0 (n : Int) 1 t u v := Heap.get?_push_of_some _ hr
        have hlS : @LT.lt Nat _ r s.heap.objs.size := Heap.lt_size hr
        have hsls := sub_range_set
        have hslf := sub_range_frozenset
        have hne : (Value.type "range" == Value.type "dict") = false := by decide
        have hol2 := hol'
        unfold IsRange at hol2
        unfold Builtin.«set.__init__» noKeywords Builtin.Frozenset.updateFrom
        generalize hPI : pyIter = PI
        wp_walk
        subst hPI
        have hsz := range_size n
        have hsm := range_small hb
        refine wpAny_pyIter_range hol' hsm ?_
        refine wpAny_bind (wpAny_runValue ?_)
        have hh3 : A.in1.in1.in1.handled = none := by simp [hh]
        have hSf : s.heap.objs.size ∉ [(s.heap.push { cls := .type "set", dict := none, data := .set #[] 0 (.fresh 0 0 led) }).objs.size] := by
          rw [Heap.size_push]; simp only [List.mem_cons, List.not_mem_nil, or_false]
          exact Nat.ne_of_lt (Nat.lt_succ_self _)
        refine codeAny_set_update_loopS ((Walks.range hh3 _ 0 1 n).toS) s.heap.objs.size
          hSf (fun (i : Nat) => 0 + (i : Int) * 1) (fun i v hv => hv) (by unfold scanBound; omega) (n - 0) 0 _ (by omega) (Nat.zero_le _)
          ?hI ?hS0 ?hR
        case hI =>
          exact range_it _ n
        case hS0 =>
          have hget : ((s.heap.push { cls := .type "set", dict := none, data := .set #[] 0 (.fresh 0 0 led) }).push { cls := .type "range_iterator", data := .fields #[rawInt 0, rawInt (Builtin.Range.rangeSize 0 (n : Int) 1), rawInt 1] }).get? s.heap.objs.size
              = some { cls := .type "set", dict := none, data := .set #[] 0 (.fresh 0 0 led) } := Heap.get?_push_of_some _ hS
          exact SetOf_congr ((setObjOf_fresh (knd := intKind prog w) led).setOf hget (by unfold scanBound; omega)) (fun _ => rfl) rfl
        case hR =>
          intro s' hm hS'
          obtain ⟨h', g', d', tk', os'⟩ := s'
          have eg : g' = s.gens := hm.gens
          have ed : d' = s.drawn := hm.drawn
          have eo : os' = s.os := hm.os
          subst eg; subst ed; subst eo
          show wpAny _ _ _ _ _ _
          refine wpAny_pure ?_
          show wpAny _ _ (ret Value.none) _ _ _
          refine wpAny_pure ⟨rfl, h', tk', rfl, hS', fun b o e => ?_⟩
          have hb0 : @LT.lt Nat _ b s.heap.objs.size := Heap.lt_size e
          have hb1 : b ≠ s.heap.objs.size := Nat.ne_of_lt hb0
          have hb2 : b ≠ (s.heap.push { cls := .type "set", dict := none, data := .set #[] 0 (.fresh 0 0 led) }).objs.size := by
            rw [Heap.size_push]; exact Nat.ne_of_lt (Nat.lt_succ_of_lt hb0)
          exact hm.heap b o (by simp only [List.mem_cons, List.not_mem_nil, or_false, not_or]; exact ⟨hb1, hb2⟩) (Heap.get?_push_of_some _ (Heap.get?_push_of_some _ e))
      · cases r₂ with
        | error e => exact hr₂
        | ok fl₂ =>
          cases fl₂ with
          | ret r =>
            obtain ⟨rfl, h', tk, rfl, hS', hk'⟩ := hr₂
            repeat (any_goals (first | assumption | wp_step))
            refine h _ _ (SetOf_congr hS' (fun k => ?_) ?_) hk'
            · rw [first_all, Bool.eq_iff_iff, List.any_eq_true]
              simp only [decide_eq_true_eq]
              constructor
              · rintro ⟨x, hx, e⟩
                obtain ⟨j, hj, rfl⟩ := List.mem_map.mp hx
                have := List.mem_range.mp hj
                have := eq_of_beq e
                omega
              · rintro ⟨h1, h2⟩
                refine ⟨k, List.mem_map.mpr ⟨k.toNat, List.mem_range.mpr (by omega), by omega⟩, by simp⟩
            · rw [first_all]; simp
          | _ => exact hr₂.elim
    | _ => exact hr'.elim
end
end
section
open PySem PySem.W PyProof.Rows PyProof.V PySem.Spec PySem.Calls
def C0 : List Atom := [.int (-1000000000000000000000000000000), .int (-7), .int (-1), .int 0, .int 1, .int 2, .int 80, .int 1000000000000000000000000000000]
def C1 : List Atom := [.str "", .str " ", .str "A", .str "a", .str "aa", .str "ab", .str "b", .str "é"]
def C2 : List (List Atom) := [[], [.int (-1)], [.int (-1), .int 5], [.int 0], [.int 0, .int 0], [.int 0, .int 0, .int (-9)], [.int 1], [.int 1, .int (-1)]]
def C3 : List (List Atom) := [[], [.str ""], [.str "", .int 0], [.str "", .int 1], [.str "a"], [.str "a", .int (-1)], [.str "a", .int 0], [.str "b"]]
def C5 : List Atom := [.str "A", .str "B", .str "Z", .str "a", .str "b", .str "z", .str "é", .str "λ"]
/-- what the faces of a kind are -/
def FacesAt (w : World) (k : Nat) (h : Heap) (fs : List Value) : Prop :=
  match k with
  | 0 => Paired AtomIs C0 fs
  | 1 => Paired AtomIs C1 fs
  | 2 => Paired (fun c v => ∃ a items, v = Value.ref a ∧ h.IsList a items ∧ Paired AtomIs c items.toList) C2 fs
  | 3 => Paired (fun c v => ∃ a items, v = Value.ref a ∧ h.IsTuple a items ∧ Paired AtomIs c items.toList) C3 fs
  | 4 => fs.length = 8 ∧ ∀ (j : Nat) v, fs[j]? = some v → ∃ a, v = Value.ref a ∧ h.SetOf (intKind PG w) a (fun k' => decide (0 ≤ k' ∧ k' < (j : Int))) j
  | _ => Paired AtomIs C5 fs
abbrev tupO (vs : List Value) (n : Nat) : Obj := { cls := .type "tuple", dict := none, data := .seq vs.toArray n, slots := #[] }
def KindsIn (w : World) (kobjs : List (Addr × Obj)) (fa : List Addr) (fss : List (List Value)) : Prop :=
  ∀ h : Heap, (∀ p ∈ kobjs, h.get? p.1 = some p.2) → ∀ (k : Nat) f fs, fa[k]? = some f → fss[k]? = some fs → h.get? f = some (tupO fs 0) ∧ FacesAt w k h fs
end
section
open PySem PySem.W PyProof.Rows PyProof.V PySem.Spec PySem.Calls
/-- the sets that a comprehension has made -/
inductive SetsAre (w : World) : List (Addr × Obj) → List Value → Prop
  | nil : SetsAre w [] []
  | snoc {sets : List (Addr × Obj)} {ys : List Value} {D : Addr} {o : Obj} : SetsAre w sets ys → o.SetObjOf (intKind PG w) (fun k' => decide (0 ≤ k' ∧ k' < 0 + (ys.length : Int))) (0 + (ys.length : Int)).toNat → SetsAre w (sets ++ [(D, o)]) (ys ++ [.ref D])
theorem kinds_fin {w : World} {h₀ : Heap} {L : Addr} {m : Str → Option Value} {news rest : List (Addr × Obj)} {s : Shared} {Q : Value → Shared → Prop} {K f0 f1 f2 f3 f4 f5 : Addr} {n : Nat} {fs0 fs1 fs2 fs3 fs4 fs5 : List Value} {h' : Heap} {tk : Nat}
    (ret : ∀ K fa fss kobjs n h' tk, Fr h₀ L h' m → News h₀ L h' (kobjs ++ news) → fa.length = 6 → fss.length = 6 → (K, tupO (fa.map Value.ref) n) ∈ kobjs → (∀ p ∈ kobjs, s.heap.get? p.1 = none) → KindsIn w kobjs fa fss → Q (.ref K) { s with heap := h', toks := tk })
    (hfr : ∀ p ∈ (K, tupO [.ref f0, .ref f1, .ref f2, .ref f3, .ref f4, .ref f5] n) :: rest, s.heap.get? p.1 = none) (F : Fr h₀ L h' m) (N : News h₀ L h' (((K, tupO [.ref f0, .ref f1, .ref f2, .ref f3, .ref f4, .ref f5] n) :: rest) ++ news))
    (m0 : (f0, tupO fs0 0) ∈ (K, tupO [.ref f0, .ref f1, .ref f2, .ref f3, .ref f4, .ref f5] n) :: rest) (p0 : ∀ h : Heap, (∀ p ∈ (K, tupO [.ref f0, .ref f1, .ref f2, .ref f3, .ref f4, .ref f5] n) :: rest, h.get? p.1 = some p.2) → FacesAt w 0 h fs0)
    (m1 : (f1, tupO fs1 0) ∈ (K, tupO [.ref f0, .ref f1, .ref f2, .ref f3, .ref f4, .ref f5] n) :: rest) (p1 : ∀ h : Heap, (∀ p ∈ (K, tupO [.ref f0, .ref f1, .ref f2, .ref f3, .ref f4, .ref f5] n) :: rest, h.get? p.1 = some p.2) → FacesAt w 1 h fs1)
    (m2 : (f2, tupO fs2 0) ∈ (K, tupO [.ref f0, .ref f1, .ref f2, .ref f3, .ref f4, .ref f5] n) :: rest) (p2 : ∀ h : Heap, (∀ p ∈ (K, tupO [.ref f0, .ref f1, .ref f2, .ref f3, .ref f4, .ref f5] n) :: rest, h.get? p.1 = some p.2) → FacesAt w 2 h fs2)
    (m3 : (f3, tupO fs3 0) ∈ (K, tupO [.ref f0, .ref f1, .ref f2, .ref f3, .ref f4, .ref f5] n) :: rest) (p3 : ∀ h : Heap, (∀ p ∈ (K, tupO [.ref f0, .ref f1, .ref f2, .ref f3, .ref f4, .ref f5] n) :: rest, h.get? p.1 = some p.2) → FacesAt w 3 h fs3)
    (m4 : (f4, tupO fs4 0) ∈ (K, tupO [.ref f0, .ref f1, .ref f2, .ref f3, .ref f4, .ref f5] n) :: rest) (p4 : ∀ h : Heap, (∀ p ∈ (K, tupO [.ref f0, .ref f1, .ref f2, .ref f3, .ref f4, .ref f5] n) :: rest, h.get? p.1 = some p.2) → FacesAt w 4 h fs4)
    (m5 : (f5, tupO fs5 0) ∈ (K, tupO [.ref f0, .ref f1, .ref f2, .ref f3, .ref f4, .ref f5] n) :: rest) (p5 : ∀ h : Heap, (∀ p ∈ (K, tupO [.ref f0, .ref f1, .ref f2, .ref f3, .ref f4, .ref f5] n) :: rest, h.get? p.1 = some p.2) → FacesAt w 5 h fs5) :
    Q (.ref K) { s with heap := h', toks := tk } := by
  refine ret K [f0, f1, f2, f3, f4, f5] [fs0, fs1, fs2, fs3, fs4, fs5] _ n _ _ F N rfl rfl (.head _) hfr fun h hk k f fs hf hfs => ?_
  rcases k with _ | _ | _ | _ | _ | _ | k
  · cases hf; cases hfs; exact ⟨hk _ m0, p0 h hk⟩
  · cases hf; cases hfs; exact ⟨hk _ m1, p1 h hk⟩
  · cases hf; cases hfs; exact ⟨hk _ m2, p2 h hk⟩
  · cases hf; cases hfs; exact ⟨hk _ m3, p3 h hk⟩
  · cases hf; cases hfs; exact ⟨hk _ m4, p4 h hk⟩
  · cases hf; cases hfs; exact ⟨hk _ m5, p5 h hk⟩
  · cases hf
theorem sets_at {w : World} {sets : List (Addr × Obj)} {ys : List Value} (hs : SetsAre w sets ys) {h : Heap} (hk : ∀ p ∈ sets, h.get? p.1 = some p.2) (hlen : ys.length ≤ 1000 := by omega) :
    ∀ (j : Nat) v, ys[j]? = some v → ∃ a, v = Value.ref a ∧ h.SetOf (intKind PG w) a (fun k' => decide (0 ≤ k' ∧ k' < (j : Int))) j := by
  induction hs with
  | nil => intro j v hj; simp at hj
  | @snoc sets ys D o hs so ih =>
    intro j v hj
    rw [List.length_append, List.length_singleton] at hlen
    rcases Nat.lt_trichotomy j ys.length with hl | hl | hl
    · rw [List.getElem?_append_left hl] at hj
      exact ih (fun p hp => hk p (List.mem_append_left _ hp)) (by omega) j v hj
    · subst hl
      rw [List.getElem?_concat_length] at hj
      cases hj
      refine ⟨D, rfl, ?_⟩
      have := so.setOf (hk (D, o) (by simp)) (by unfold scanBound; omega)
      exact SetOf_congr this (fun k => by simp) (by omega)
    · rw [List.getElem?_eq_none (by rw [List.length_append, List.length_singleton]; omega)] at hj
      cases hj
theorem sets_rest {prog : Program} {w : World} {A : Around} {h₀ : Heap} {L : Addr} {m : Str → Option Value} {env : Env} {elt : Expr} {x : Str} {scope : Scope} {cl : List (Str × Addr)} {s : Shared} {S : List (Addr × Obj) → Prop} {P : Nat → Value → Prop} {Fin : List Value → List (Addr × Obj) → Prop} {fz : List (Addr × Obj)}
    (fin : ∀ ys sets, SetsAre w sets ys → ys.length = 8 → Fin ys (sets ++ fz))
    (step : ∀ (ys : List Value) (sets : List (Addr × Obj)), SetsAre w sets ys → ys.length < 8 → ∀ v I oI C oC D m₂ h tk (E' : Value → Shared → Prop), P ys.length v → LCg.NsObj oC m₂ → m₂ x = some v → Fr h₀ L h m → News h₀ L h ((I, oI) :: (C, oC) :: (D, LCg.lst ys) :: (sets ++ fz)) →
      LCg.Off3 I C D (sets ++ fz) → ((@Ne Nat I C) ∧ (@Ne Nat I D) ∧ (@Ne Nat C D)) →
      wpAny (model prog w) A (eval elt (compEnvC scope cl C env)) (LCg.CompEnd h₀ L m { s with heap := h, toks := tk } I oI C oC D (LCg.lst ys) S (fun y news' => ∃ sets', news' = sets' ++ fz ∧ SetsAre w sets' (ys ++ [y]))) E' { s with heap := h, toks := tk }) :
    ∀ k i ys sets, i + k = 8 → ys.length = i → SetsAre w sets ys → LCg.CompRest prog w A h₀ L m env elt x scope cl s S P Fin k i ys (sets ++ fz) := by
  intro k
  induction k with
  | zero => exact fun i ys sets hi hl hs => fin ys sets hs (by omega)
  | succ k ih =>
    rintro i ys sets hi rfl hs
    refine LCg.CompRest.succ fun v I oI C oC D m₂ h tk E' hP hC hx F N off ne => ?_
    refine wpAny_mono (step ys sets hs (by omega) v I oI C oC D m₂ h tk E' hP hC hx F N off ne) (fun y s₂ he => ?_) fun _ _ e => e
    obtain ⟨h', tk', news', e, F', N', off', hS, sets', rfl, hs'⟩ := he
    exact ⟨h', tk', _, e, F', N', off', hS, ih _ _ _ (by omega) (by simp) hs'⟩
theorem halt_post {α : Type} {M : Model} {A : Around} {t : Sem α} {Q : α → Shared → Prop} {E : Value → Shared → Prop} {s : Shared} (h : wpAny M A t (fun v s' => Halt (Q v s')) E s) : wpAny M A t Q E s := h
structure Marker : Prop where
theorem ev_pow30 {prog : Program} {w : World} {A : Around} {E : Value → Shared → Prop} {s : Shared} {env : Env} {k1 k2 : Nat} {p1 p2 p : Pos} {Q : Value → Shared → Prop}
    (h : ∀ tk t, Q (.int 1000000000000000000000000000000 t) { s with toks := tk }) : wpAny (model prog w) A (eval (.BinOp (.Constant (.int 10) k1 p1) .Pow (.Constant (.int 30) k2 p2) p) env) Q E s := by
  refine wpAny_BinOp ?_
  k_steps
  have e : (10 : Int) ^ Int.toNat 30 = 1000000000000000000000000000000 := by decide +kernel
  rw [e]
  exact h _ _
section
variable {prog : Program} {w : World} {A : Around} {E : Value → Shared → Prop} {s : Shared} {h₀ : Heap} {L : Addr} {m : Str → Option Value} {news : List (Addr × Obj)}
theorem set_rangeN {r : Addr} {b : Int} {t u v : Tok} {Q : Value → Shared → Prop} (F : Fr h₀ L s.heap m) (N : News h₀ L s.heap news) (hh : A.handled = none) (hr : IsRange s.heap r 0 b 1 t u v) (hb0 : 0 ≤ b) (hb1 : b ≤ 1000)
    (h : ∀ D h' tk o, Fr h₀ L h' m → News h₀ L h' ((D, o) :: news) → (∀ p ∈ news, p.1 < D) → o.SetObjOf (intKind prog w) (fun k' => decide (0 ≤ k' ∧ k' < b)) b.toNat → Q (.ref D) { s with heap := h', toks := tk }) :
    wpAny (model prog w) A (call (.type "set") [.ref r]) Q E s := by
  obtain ⟨n, rfl⟩ := Int.eq_ofNat_of_zero_le hb0
  refine call_set_range hh hr (by omega) fun h' tk hS hk => ?_
  obtain ⟨o, ho, hso⟩ := hS.objOf
  refine h _ h' tk o (F.keeps hk) (fun p hp => ?_) (fun p hp => Heap.lt_size (N p hp).1) hso
  rcases List.mem_cons.mp hp with rfl | hp
  · exact ⟨ho, Nat.ne_of_gt F.ns.lt, next_is_new F⟩
  · exact ⟨hk _ _ (N p hp).1, (N p hp).2⟩
end
section
local macro_rules | `(tactic| walk_at "call type:set") => `(tactic| (refine' set_rangeN ?F ?N rfl ?r ?b0 ?b1 ?_; (case F => k_asm); (case N => k_asm); (case r => assumption); (case b0 => omega); (case b1 => omega); intro D' h' tk' o' F' N' l1 so'; (try k_lt l1); (try dsimp only)))
local macro_rules | `(tactic| walk_at "eval ListComp") => `(tactic| (rename Marker => mk; clear mk; refine halt ?_))
local macro_rules | `(tactic| walk_at "eval BinOp") => `(tactic| (refine ev_pow30 ?_; intro _ _; (try dsimp only)))
set_option maxRecDepth 100000 in
set_option maxHeartbeats 8000000 in
theorem kinds_spec {w : World} {mean : ExcName → Option Value} {mg mb : Str → Option Value} {h₀ : Heap} {e1 : Env} {L : Addr} {m : Str → Option Value} {news : List (Addr × Obj)}
    {s : Shared} {Q E : Value → Shared → Prop} (F : Fr h₀ L s.heap m) (X : (hd.heap_39 w.params).In h₀) (N : News h₀ L s.heap news) (T : TopH mean mg mb h₀)
    (ret : ∀ K fa fss kobjs n h' tk, Fr h₀ L h' m → News h₀ L h' (kobjs ++ news) → fa.length = 6 → fss.length = 6 → (K, tupO (fa.map Value.ref) n) ∈ kobjs → (∀ p ∈ kobjs, s.heap.get? p.1 = none) → KindsIn w kobjs fa fss → Q (.ref K) { s with heap := h', toks := tk }) :
    wpAny (model PG w) (callerA.deeper e1) (call (.ref 33) []) Q E s := by
  refine' call_own (binds := []) F X T ?k6 ?k7 ?k8 ?k9 ?kB ?_ ?c5 ?c2 ?c3 ?c4
  case k6 => k_is
  case k7 => k_is
  case k8 => (simp only [depth_deeper, depth_caller]; decide)
  case k9 => exact BindsTo.of_eq rfl
  case kB => exact locs rfl
  case c5 => decide
  case c2 => exact rfl
  case c3 => exact rfl
  case c4 => exact rfl
  intro h₁ F' X' T'
  have F'' := fr_eq F' lookup0
  clear F'
  have mk : Marker := ⟨⟩
  have N0 : News s.heap s.heap.objs.size h₁ [] := News.nil
  have Nk : Halt (News h₀ L s.heap news) := N
  have Fk : Halt (Fr h₀ L s.heap m) := F
  clear N F
  try dsimp only
  k_steps
  rename Fr _ _ _ _ => F2
  rename News _ _ _ _ => N2
  obtain ⟨fz, Nz, hfz⟩ : ∃ fz, News s.heap s.heap.objs.size _ fz ∧ fz = _ := ⟨_, N2, rfl⟩
  clear N2
  unfold Halt
  refine LCg.ListComp_U (F₀ := F2) (by with_unfolding_all rfl) (by decide) rfl (by decide) rfl (halt_post ?_) (fun _ => rfl)
  k_steps
  unfold Halt
  rename Fr _ _ _ _ => F3
  rename News _ _ _ _ => N3
  rename IsRange _ _ _ _ _ _ _ _ => hr
  refine LCg.CompSrc.range (n := 8) rfl F3 N3 hr (range_small (n := 8) (by omega)) (range_size 8) (by decide) fun g => ?_
  refine sets_rest (w := w) (fz := fz) ?fin ?step 8 0 [] [] rfl rfl .nil
  case step =>
    intro ys sets hs hl v I oI C oC D m₂ h tk E' hP hC hx F N off ne
    obtain ⟨t, rfl⟩ := hP
    refine halt_post ?_
    k_steps
    rename Fr _ _ _ _ => F4
    rename News _ _ _ _ => N4
    rename Obj.SetObjOf _ _ _ _ => so
    rename _ ∧ _ ∧ _ ∧ AllLt _ _ => lt
    show LCg.CompEnd _ _ _ _ I oI C oC D _ _ _ _ _
    refine LCg.CompEnd.intro F4 N4 ((sets ++ [(_, _)]) ++ fz) (fun p hq => ?_) (LCg.Off3.of fun p hq => ?_) trivial ⟨_, rfl, .snoc hs so⟩
    · simp only [List.mem_cons, List.mem_append, List.append_assoc, List.not_mem_nil, or_false] at hq ⊢
      rcases hq with h | h | h | h | h | h <;> simp [h]
    · simp only [List.mem_cons, List.mem_append, List.append_assoc, List.not_mem_nil, or_false] at hq
      rcases hq with h | rfl | h
      · exact LCg.Off3.mem off p (by simp [h])
      · exact ⟨Ne.symm (Nat.ne_of_lt lt.1), Ne.symm (Nat.ne_of_lt lt.2.1), Ne.symm (Nat.ne_of_lt lt.2.2.1)⟩
      · exact LCg.Off3.mem off p (by simp [h])
  case fin =>
    intro ys sets hs hl D h tk F5 N5 off
    k_steps
    rename Fr _ _ _ _ => F9
    rename News _ _ _ _ => N9
    obtain ⟨F10, N10⟩ := back Fk Nk F9 N9
    subst hfz
    refine kinds_fin (s := s) ret (fun p hp => (N9 p hp).2.2) F10 N10 (.tail _ (.tail _ (.tail _ (.tail _ (List.mem_append_right _ (.tail _ (.tail _ (.tail _ (.tail _ (.tail _ (.tail _ (.tail _ (.tail _ (.tail _ (.tail _ (.tail _ (.tail _ (.tail _ (.tail _ (.tail _ (.tail _ (.tail _ (.tail _ (.tail _ (.head _))))))))))))))))))))))))) (fun h' hk => (.cons ⟨_, rfl⟩ (.cons ⟨_, rfl⟩ (.cons ⟨_, rfl⟩ (.cons ⟨_, rfl⟩ (.cons ⟨_, rfl⟩ (.cons ⟨_, rfl⟩ (.cons ⟨_, rfl⟩ (.cons ⟨_, rfl⟩ .nil))))))))) (.tail _ (.tail _ (.tail _ (.tail _ (List.mem_append_right _ (.tail _ (.tail _ (.tail _ (.tail _ (.tail _ (.tail _ (.tail _ (.tail _ (.tail _ (.tail _ (.tail _ (.tail _ (.tail _ (.tail _ (.tail _ (.tail _ (.tail _ (.tail _ (.head _)))))))))))))))))))))))) (fun h' hk => (.cons ⟨_, rfl⟩ (.cons ⟨_, rfl⟩ (.cons ⟨_, rfl⟩ (.cons ⟨_, rfl⟩ (.cons ⟨_, rfl⟩ (.cons ⟨_, rfl⟩ (.cons ⟨_, rfl⟩ (.cons ⟨_, rfl⟩ .nil))))))))) (.tail _ (.tail _ (.tail _ (.tail _ (List.mem_append_right _ (.tail _ (.tail _ (.tail _ (.tail _ (.tail _ (.tail _ (.tail _ (.tail _ (.tail _ (.head _))))))))))))))) (fun h' hk => (.cons ⟨_, _, rfl, ⟨_, hk _ (.tail _ (.tail _ (.tail _ (.tail _ (List.mem_append_right _ (.tail _ (.tail _ (.tail _ (.tail _ (.tail _ (.tail _ (.tail _ (.tail _ (.tail _ (.tail _ (.tail _ (.tail _ (.tail _ (.tail _ (.tail _ (.tail _ (.tail _ (.head _))))))))))))))))))))))), rfl, _, rfl⟩, .nil⟩ (.cons ⟨_, _, rfl, ⟨_, hk _ (.tail _ (.tail _ (.tail _ (.tail _ (List.mem_append_right _ (.tail _ (.tail _ (.tail _ (.tail _ (.tail _ (.tail _ (.tail _ (.tail _ (.tail _ (.tail _ (.tail _ (.tail _ (.tail _ (.tail _ (.tail _ (.tail _ (.head _)))))))))))))))))))))), rfl, _, rfl⟩, (.cons ⟨_, rfl⟩ .nil)⟩ (.cons ⟨_, _, rfl, ⟨_, hk _ (.tail _ (.tail _ (.tail _ (.tail _ (List.mem_append_right _ (.tail _ (.tail _ (.tail _ (.tail _ (.tail _ (.tail _ (.tail _ (.tail _ (.tail _ (.tail _ (.tail _ (.tail _ (.tail _ (.tail _ (.tail _ (.head _))))))))))))))))))))), rfl, _, rfl⟩, (.cons ⟨_, rfl⟩ (.cons ⟨_, rfl⟩ .nil))⟩ (.cons ⟨_, _, rfl, ⟨_, hk _ (.tail _ (.tail _ (.tail _ (.tail _ (List.mem_append_right _ (.tail _ (.tail _ (.tail _ (.tail _ (.tail _ (.tail _ (.tail _ (.tail _ (.tail _ (.tail _ (.tail _ (.tail _ (.tail _ (.tail _ (.head _)))))))))))))))))))), rfl, _, rfl⟩, (.cons ⟨_, rfl⟩ .nil)⟩ (.cons ⟨_, _, rfl, ⟨_, hk _ (.tail _ (.tail _ (.tail _ (.tail _ (List.mem_append_right _ (.tail _ (.tail _ (.tail _ (.tail _ (.tail _ (.tail _ (.tail _ (.tail _ (.tail _ (.tail _ (.tail _ (.tail _ (.tail _ (.head _))))))))))))))))))), rfl, _, rfl⟩, (.cons ⟨_, rfl⟩ (.cons ⟨_, rfl⟩ .nil))⟩ (.cons ⟨_, _, rfl, ⟨_, hk _ (.tail _ (.tail _ (.tail _ (.tail _ (List.mem_append_right _ (.tail _ (.tail _ (.tail _ (.tail _ (.tail _ (.tail _ (.tail _ (.tail _ (.tail _ (.tail _ (.tail _ (.tail _ (.head _)))))))))))))))))), rfl, _, rfl⟩, (.cons ⟨_, rfl⟩ (.cons ⟨_, rfl⟩ (.cons ⟨_, rfl⟩ .nil)))⟩ (.cons ⟨_, _, rfl, ⟨_, hk _ (.tail _ (.tail _ (.tail _ (.tail _ (List.mem_append_right _ (.tail _ (.tail _ (.tail _ (.tail _ (.tail _ (.tail _ (.tail _ (.tail _ (.tail _ (.tail _ (.tail _ (.head _))))))))))))))))), rfl, _, rfl⟩, (.cons ⟨_, rfl⟩ .nil)⟩ (.cons ⟨_, _, rfl, ⟨_, hk _ (.tail _ (.tail _ (.tail _ (.tail _ (List.mem_append_right _ (.tail _ (.tail _ (.tail _ (.tail _ (.tail _ (.tail _ (.tail _ (.tail _ (.tail _ (.tail _ (.head _)))))))))))))))), rfl, _, rfl⟩, (.cons ⟨_, rfl⟩ (.cons ⟨_, rfl⟩ .nil))⟩ .nil))))))))) (.tail _ (.tail _ (.tail _ (.tail _ (List.mem_append_right _ (.head _)))))) (fun h' hk => (.cons ⟨_, _, rfl, ⟨_, hk _ (.tail _ (.tail _ (.tail _ (.tail _ (List.mem_append_right _ (.tail _ (.tail _ (.tail _ (.tail _ (.tail _ (.tail _ (.tail _ (.tail _ (.head _)))))))))))))), rfl, _, rfl⟩, .nil⟩ (.cons ⟨_, _, rfl, ⟨_, hk _ (.tail _ (.tail _ (.tail _ (.tail _ (List.mem_append_right _ (.tail _ (.tail _ (.tail _ (.tail _ (.tail _ (.tail _ (.tail _ (.head _))))))))))))), rfl, _, rfl⟩, (.cons ⟨_, rfl⟩ .nil)⟩ (.cons ⟨_, _, rfl, ⟨_, hk _ (.tail _ (.tail _ (.tail _ (.tail _ (List.mem_append_right _ (.tail _ (.tail _ (.tail _ (.tail _ (.tail _ (.tail _ (.head _)))))))))))), rfl, _, rfl⟩, (.cons ⟨_, rfl⟩ (.cons ⟨_, rfl⟩ .nil))⟩ (.cons ⟨_, _, rfl, ⟨_, hk _ (.tail _ (.tail _ (.tail _ (.tail _ (List.mem_append_right _ (.tail _ (.tail _ (.tail _ (.tail _ (.tail _ (.head _))))))))))), rfl, _, rfl⟩, (.cons ⟨_, rfl⟩ (.cons ⟨_, rfl⟩ .nil))⟩ (.cons ⟨_, _, rfl, ⟨_, hk _ (.tail _ (.tail _ (.tail _ (.tail _ (List.mem_append_right _ (.tail _ (.tail _ (.tail _ (.tail _ (.head _)))))))))), rfl, _, rfl⟩, (.cons ⟨_, rfl⟩ .nil)⟩ (.cons ⟨_, _, rfl, ⟨_, hk _ (.tail _ (.tail _ (.tail _ (.tail _ (List.mem_append_right _ (.tail _ (.tail _ (.tail _ (.head _))))))))), rfl, _, rfl⟩, (.cons ⟨_, rfl⟩ (.cons ⟨_, rfl⟩ .nil))⟩ (.cons ⟨_, _, rfl, ⟨_, hk _ (.tail _ (.tail _ (.tail _ (.tail _ (List.mem_append_right _ (.tail _ (.tail _ (.head _)))))))), rfl, _, rfl⟩, (.cons ⟨_, rfl⟩ (.cons ⟨_, rfl⟩ .nil))⟩ (.cons ⟨_, _, rfl, ⟨_, hk _ (.tail _ (.tail _ (.tail _ (.tail _ (List.mem_append_right _ (.tail _ (.head _))))))), rfl, _, rfl⟩, (.cons ⟨_, rfl⟩ .nil)⟩ .nil))))))))) (.tail _ (.tail _ (.head _))) (fun h' hk => ⟨hl, sets_at hs fun p hp => hk _ (.tail _ (.tail _ (.tail _ (.tail _ (List.mem_append_left _ hp)))))⟩)
      (.tail _ (.head _)) (fun h' hk => (.cons ⟨_, rfl⟩ (.cons ⟨_, rfl⟩ (.cons ⟨_, rfl⟩ (.cons ⟨_, rfl⟩ (.cons ⟨_, rfl⟩ (.cons ⟨_, rfl⟩ (.cons ⟨_, rfl⟩ (.cons ⟨_, rfl⟩ .nil)))))))))
end
end
section
open PySem PySem.W PyProof.Rows PyProof.V PySem.Spec PySem.Calls
open PySem.SeqAt
def IsFaceK (k : Nat) (fs : List Value) (r : Int) (v : Value) : Prop :=
  ∃ j : Nat, r = (j : Int) ∧ j < 8 ∧ match k with
  | 0 => AtomIs (C0.getD j (.int 0)) v
  | 1 => AtomIs (C1.getD j (.int 0)) v
  | 2 => fs[j]? = some v
  | 3 => fs[j]? = some v
  | 4 => fs[j]? = some v
  | _ => AtomIs (C5.getD j (.int 0)) v
def tabLt (C : List Atom) : Bool := (List.range 8).all fun j => (List.range 8).all fun i => atomCmp true (C.getD j (.int 0)) (C.getD i (.int 0)) == some (decide ((j : Int) < (i : Int))) && atomCmp false (C.getD j (.int 0)) (C.getD i (.int 0)) == some (decide ((i : Int) < (j : Int))) && atomEq (C.getD j (.int 0)) (C.getD i (.int 0)) == decide ((j : Int) = (i : Int))
def tabLex (C : List (List Atom)) : Bool := (List.range 8).all fun j => (List.range 8).all fun i => lexA true (C.getD j []) (C.getD i []) == some (decide ((j : Int) < (i : Int))) && lexA false (C.getD j []) (C.getD i []) == some (decide ((i : Int) < (j : Int))) && eqA (C.getD j []) (C.getD i []) == decide ((j : Int) = (i : Int))
theorem tab0 : tabLt C0 = true := by decide +kernel
theorem tab1 : tabLt C1 = true := by decide +kernel
theorem tab5 : tabLt C5 = true := by decide +kernel
theorem tab2 : tabLex C2 = true := by decide +kernel
theorem tab3 : tabLex C3 = true := by decide +kernel
theorem tabLt_at {C : List Atom} (h : tabLt C = true) {j i : Nat} (hj : j < 8) (hi : i < 8) : atomCmp true (C.getD j (.int 0)) (C.getD i (.int 0)) = some (decide ((j : Int) < (i : Int))) ∧ atomCmp false (C.getD j (.int 0)) (C.getD i (.int 0)) = some (decide ((i : Int) < (j : Int))) ∧ atomEq (C.getD j (.int 0)) (C.getD i (.int 0)) = decide ((j : Int) = (i : Int)) := by
  have := List.all_eq_true.mp (List.all_eq_true.mp h j (List.mem_range.mpr hj)) i (List.mem_range.mpr hi)
  simp only [Bool.and_eq_true, beq_iff_eq] at this
  exact ⟨this.1.1, this.1.2, this.2⟩
theorem tabLex_at {C : List (List Atom)} (h : tabLex C = true) {j i : Nat} (hj : j < 8) (hi : i < 8) : lexA true (C.getD j []) (C.getD i []) = some (decide ((j : Int) < (i : Int))) ∧ lexA false (C.getD j []) (C.getD i []) = some (decide ((i : Int) < (j : Int))) ∧ eqA (C.getD j []) (C.getD i []) = decide ((j : Int) = (i : Int)) := by
  have := List.all_eq_true.mp (List.all_eq_true.mp h j (List.mem_range.mpr hj)) i (List.mem_range.mpr hi)
  simp only [Bool.and_eq_true, beq_iff_eq] at this
  exact ⟨this.1.1, this.1.2, this.2⟩
theorem atom_rc {A : Around} {s : Shared} {a c : Atom} {v u : Value} (h1 : AtomIs a v) (h2 : AtomIs c u) : RcAt A s v u (atomEq a c) := by
  cases a <;> cases c <;> obtain ⟨t, rfl⟩ := h1 <;> obtain ⟨t', rfl⟩ := h2
  · exact RcAt.int_int _ _ _ _
  · exact RcAt.int_str _ _ _ _
  · exact RcAt.str_int _ _ _ _
  · show RcAt A s _ _ (_ == _)
    rw [str_beq]; exact RcAt.str_str _ _ _ _
theorem ops_atoms {w : World} {Ok : Heap → Prop} {C : List Atom} (ht : tabLt C = true) {IsFace : Int → Value → Prop} (hf : ∀ r v, IsFace r v → ∃ j : Nat, r = (j : Int) ∧ j < 8 ∧ AtomIs (C.getD j (.int 0)) v) : FaceOps w Ok IsFace where
  lt := fun A E s r q v u Q hu hok h1 h2 hQ => by
    obtain ⟨j, rfl, hj, ha⟩ := hf _ _ h1
    obtain ⟨i, rfl, hi, hc⟩ := hf _ _ h2
    exact atom_lt ha hc (tabLt_at ht hj hi).1 (hQ s.heap s.toks fun _ _ e => e)
  gt := fun A E s r q v u Q hu hok h1 h2 hQ => by
    obtain ⟨j, rfl, hj, ha⟩ := hf _ _ h1
    obtain ⟨i, rfl, hi, hc⟩ := hf _ _ h2
    exact atom_gt ha hc (tabLt_at ht hj hi).2.1 (hQ s.heap s.toks fun _ _ e => e)
  eq := fun A E s r q v u Q hu hok h1 h2 hQ => by
    obtain ⟨j, rfl, hj, ha⟩ := hf _ _ h1
    obtain ⟨i, rfl, hi, hc⟩ := hf _ _ h2
    refine atom_rc ha hc _ _ _ _ ?_
    rw [(tabLt_at ht hj hi).2.2]
    exact hQ s.heap s.toks fun _ _ e => e
  same := fun A s r v u hok h1 h2 => by
    obtain ⟨j, rfl, hj, ha⟩ := hf _ _ h1
    obtain ⟨i, e, hi, hc⟩ := hf _ _ h2
    have : j = i := by omega
    subst this
    have := atom_eqAt (A := A) (s := s) ha hc
    rw [(tabLt_at ht hj hj).2.2, decide_eq_true rfl] at this
    exact this
theorem getD_at {α : Type} {l : List α} {d : α} {j : Nat} (h : j < l.length) : l[j]? = some (l.getD j d) := by
  rw [List.getD_eq_getElem?_getD, List.getElem?_eq_getElem h]; rfl
theorem ops_list {w : World} {C : List (List Atom)} (ht : tabLex C = true) (hC : C.length = 8) {fs : List Value} :
    FaceOps w (fun h => Paired (fun c v => ∃ a items, v = Value.ref a ∧ h.IsList a items ∧ Paired AtomIs c items.toList) C fs) (fun r v => ∃ j : Nat, r = (j : Int) ∧ j < 8 ∧ fs[j]? = some v) where
  lt := fun A E s r q v u Q hu hok h1 h2 hQ => by
    obtain ⟨j, rfl, hj, ha⟩ := h1
    obtain ⟨i, rfl, hi, hc⟩ := h2
    obtain ⟨a, its, rfl, hl, hp⟩ := paired_at hok j (C.getD j []) v (getD_at (by omega)) ha
    obtain ⟨b, its2, rfl, hl2, hp2⟩ := paired_at hok i (C.getD i []) u (getD_at (by omega)) hc
    exact list_lt_at hl hl2 hu hp hp2 (tabLex_at ht hj hi).1 (hQ s.heap s.toks fun _ _ e => e)
  gt := fun A E s r q v u Q hu hok h1 h2 hQ => by
    obtain ⟨j, rfl, hj, ha⟩ := h1
    obtain ⟨i, rfl, hi, hc⟩ := h2
    obtain ⟨a, its, rfl, hl, hp⟩ := paired_at hok j (C.getD j []) v (getD_at (by omega)) ha
    obtain ⟨b, its2, rfl, hl2, hp2⟩ := paired_at hok i (C.getD i []) u (getD_at (by omega)) hc
    exact list_gt_at hl hl2 hu hp hp2 (tabLex_at ht hj hi).2.1 (hQ s.heap s.toks fun _ _ e => e)
  eq := fun A E s r q v u Q hu hok h1 h2 hQ => by
    obtain ⟨j, rfl, hj, ha⟩ := h1
    obtain ⟨i, rfl, hi, hc⟩ := h2
    obtain ⟨a, its, rfl, hl, hp⟩ := paired_at hok j (C.getD j []) v (getD_at (by omega)) ha
    obtain ⟨b, its2, rfl, hl2, hp2⟩ := paired_at hok i (C.getD i []) u (getD_at (by omega)) hc
    refine list_eq_at hl hl2 hu hp hp2 ?_
    rw [(tabLex_at ht hj hi).2.2]
    exact hQ s.heap s.toks fun _ _ e => e
  same := fun A s r v u hok h1 h2 => by
    obtain ⟨j, rfl, hj, ha⟩ := h1
    obtain ⟨i, e, hi, hc⟩ := h2
    have : j = i := by omega
    subst this
    rw [ha] at hc
    cases hc
    exact EqAt.same _
theorem ops_tuple {w : World} {C : List (List Atom)} (ht : tabLex C = true) (hC : C.length = 8) {fs : List Value} :
    FaceOps w (fun h => Paired (fun c v => ∃ a items, v = Value.ref a ∧ h.IsTuple a items ∧ Paired AtomIs c items.toList) C fs) (fun r v => ∃ j : Nat, r = (j : Int) ∧ j < 8 ∧ fs[j]? = some v) where
  lt := fun A E s r q v u Q hu hok h1 h2 hQ => by
    obtain ⟨j, rfl, hj, ha⟩ := h1
    obtain ⟨i, rfl, hi, hc⟩ := h2
    obtain ⟨a, its, rfl, hl, hp⟩ := paired_at hok j (C.getD j []) v (getD_at (by omega)) ha
    obtain ⟨b, its2, rfl, hl2, hp2⟩ := paired_at hok i (C.getD i []) u (getD_at (by omega)) hc
    exact tuple_lt_at hl hl2 hu hp hp2 (tabLex_at ht hj hi).1 (hQ s.heap s.toks fun _ _ e => e)
  gt := fun A E s r q v u Q hu hok h1 h2 hQ => by
    obtain ⟨j, rfl, hj, ha⟩ := h1
    obtain ⟨i, rfl, hi, hc⟩ := h2
    obtain ⟨a, its, rfl, hl, hp⟩ := paired_at hok j (C.getD j []) v (getD_at (by omega)) ha
    obtain ⟨b, its2, rfl, hl2, hp2⟩ := paired_at hok i (C.getD i []) u (getD_at (by omega)) hc
    exact tuple_gt_at hl hl2 hu hp hp2 (tabLex_at ht hj hi).2.1 (hQ s.heap s.toks fun _ _ e => e)
  eq := fun A E s r q v u Q hu hok h1 h2 hQ => by
    obtain ⟨j, rfl, hj, ha⟩ := h1
    obtain ⟨i, rfl, hi, hc⟩ := h2
    obtain ⟨a, its, rfl, hl, hp⟩ := paired_at hok j (C.getD j []) v (getD_at (by omega)) ha
    obtain ⟨b, its2, rfl, hl2, hp2⟩ := paired_at hok i (C.getD i []) u (getD_at (by omega)) hc
    refine tuple_eq_at hl hl2 hu hp hp2 ?_
    rw [(tabLex_at ht hj hi).2.2]
    exact hQ s.heap s.toks fun _ _ e => e
  same := fun A s r v u hok h1 h2 => by
    obtain ⟨j, rfl, hj, ha⟩ := h1
    obtain ⟨i, e, hi, hc⟩ := h2
    have : j = i := by omega
    subst this
    rw [ha] at hc
    cases hc
    exact EqAt.same _
theorem ops_set {w : World} {fs : List Value} :
    FaceOps w (fun h => fs.length = 8 ∧ ∀ (j : Nat) v, fs[j]? = some v → ∃ a, v = Value.ref a ∧ h.SetOf (intKind PG w) a (fun k' => decide (0 ≤ k' ∧ k' < (j : Int))) j) (fun r v => ∃ j : Nat, r = (j : Int) ∧ j < 8 ∧ fs[j]? = some v) where
  lt := fun A E s r q v u Q hu hok h1 h2 hQ => by
    obtain ⟨j, rfl, hj, ha⟩ := h1
    obtain ⟨i, rfl, hi, hc⟩ := h2
    obtain ⟨a, rfl, hl⟩ := hok.2 j v ha
    obtain ⟨b, rfl, hl2⟩ := hok.2 i u hc
    refine set_lt_at hl hl2 hu (fun hlt k hk => ?_) ?_
    · simp only [decide_eq_true_eq] at hk ⊢; omega
    · have := hQ s.heap s.toks fun _ _ e => e
      rwa [show decide ((j : Int) < (i : Int)) = decide (j < i) by simp] at this
  gt := fun A E s r q v u Q hu hok h1 h2 hQ => by
    obtain ⟨j, rfl, hj, ha⟩ := h1
    obtain ⟨i, rfl, hi, hc⟩ := h2
    obtain ⟨a, rfl, hl⟩ := hok.2 j v ha
    obtain ⟨b, rfl, hl2⟩ := hok.2 i u hc
    refine set_gt_at hl hl2 hu (fun hlt k hk => ?_) ?_
    · simp only [decide_eq_true_eq] at hk ⊢; omega
    · have := hQ s.heap s.toks fun _ _ e => e
      rwa [show decide ((i : Int) < (j : Int)) = decide (i < j) by simp] at this
  eq := fun A E s r q v u Q hu hok h1 h2 hQ => by
    obtain ⟨j, rfl, hj, ha⟩ := h1
    obtain ⟨i, rfl, hi, hc⟩ := h2
    obtain ⟨a, rfl, hl⟩ := hok.2 j v ha
    obtain ⟨b, rfl, hl2⟩ := hok.2 i u hc
    refine set_eq_at hl hl2 hu (fun hlt k hk => ?_) ?_
    · simp only [decide_eq_true_eq] at hk ⊢; omega
    · have := hQ s.heap s.toks fun _ _ e => e
      rwa [show decide ((j : Int) = (i : Int)) = decide (j = i) from decide_eq_decide.mpr (by omega)] at this
  same := fun A s r v u hok h1 h2 => by
    obtain ⟨j, rfl, hj, ha⟩ := h1
    obtain ⟨i, e, hi, hc⟩ := h2
    have : j = i := by omega
    subst this
    rw [ha] at hc
    cases hc
    exact EqAt.same _
theorem FaceOps.weaken {w : World} {Ok Ok' : Heap → Prop} {IsFace : Int → Value → Prop} (x : FaceOps w Ok IsFace) (h : ∀ hp, Ok' hp → Ok hp) : FaceOps w Ok' IsFace where
  lt := fun A E s r q v u Q hu hok => x.lt A E s r q v u Q hu (h _ hok)
  gt := fun A E s r q v u Q hu hok => x.gt A E s r q v u Q hu (h _ hok)
  eq := fun A E s r q v u Q hu hok => x.eq A E s r q v u Q hu (h _ hok)
  same := fun A s r v u hok => x.same A s r v u (h _ hok)
theorem face_ops {w : World} {k : Nat} {fs : List Value} : FaceOps w (fun h => FacesAt w k h fs) (IsFaceK k fs) := by
  rcases k with _ | _ | _ | _ | _ | k
  · exact ops_atoms tab0 fun r v h => h
  · exact ops_atoms tab1 fun r v h => h
  · exact ops_list tab2 rfl
  · exact ops_tuple tab3 rfl
  · exact ops_set
  · exact ops_atoms tab5 fun r v h => h
theorem faces_at {w : World} {k : Nat} {h : Heap} {fs : List Value} (x : FacesAt w k h fs) : fs.length = 8 ∧ ∀ (j : Nat) v, fs[j]? = some v → IsFaceK k fs (j : Int) v := by
  have atoms : ∀ {C : List Atom}, C.length = 8 → Paired AtomIs C fs → fs.length = 8 ∧ ∀ (j : Nat) v, fs[j]? = some v → j < 8 ∧ AtomIs (C.getD j (.int 0)) v := fun {C} hC hp => by
    have hl : fs.length = 8 := by rw [← hp.length, hC]
    refine ⟨hl, fun j v hv => ?_⟩
    have hj : j < 8 := by have := (List.getElem?_eq_some_iff.mp hv).1; omega
    exact ⟨hj, paired_at hp j _ v (getD_at (by omega)) hv⟩
  have refs : fs.length = 8 → ∀ (j : Nat) v, fs[j]? = some v → j < 8 := fun hl j v hv => by have := (List.getElem?_eq_some_iff.mp hv).1; omega
  rcases k with _ | _ | _ | _ | _ | k
  · obtain ⟨a, b⟩ := atoms rfl x; exact ⟨a, fun j v hv => ⟨j, rfl, b j v hv⟩⟩
  · obtain ⟨a, b⟩ := atoms rfl x; exact ⟨a, fun j v hv => ⟨j, rfl, b j v hv⟩⟩
  · have hl : fs.length = 8 := (Paired.length x).symm; exact ⟨hl, fun j v hv => ⟨j, rfl, refs hl j v hv, hv⟩⟩
  · have hl : fs.length = 8 := (Paired.length x).symm; exact ⟨hl, fun j v hv => ⟨j, rfl, refs hl j v hv, hv⟩⟩
  · exact ⟨x.1, fun j v hv => ⟨j, rfl, refs x.1 j v hv, hv⟩⟩
  · obtain ⟨a, b⟩ := atoms rfl x; exact ⟨a, fun j v hv => ⟨j, rfl, b j v hv⟩⟩
end
section
open PySem PySem.W PyProof.Rows PyProof.V PySem.Spec PySem.Calls
theorem paired_drop {α β : Type} {P : α → β → Prop} : ∀ {xs : List α} {ys : List β}, Paired P xs ys → ∀ k : Nat, Paired P (xs.drop k) (ys.drop k)
  | _, _, h, 0 => h
  | _, _, .nil, _ + 1 => .nil
  | _, _, .cons _ h, k + 1 => by simpa using paired_drop h k
theorem paired_get {α β : Type} {P : α → β → Prop} {xs : List α} {ys : List β} (h : Paired P xs ys) {i : Nat} {a : α} (e : xs[i]? = some a) : ∃ b, ys[i]? = some b ∧ P a b := by
  have hi := (List.getElem?_eq_some_iff.mp e).1
  rw [h.length] at hi
  exact ⟨ys[i], List.getElem?_eq_getElem hi, paired_at h i a _ e (List.getElem?_eq_getElem hi)⟩
theorem seq_idx {i n : Nat} (h : i < n) : seqIndex? (i : Int) n = some i := by
  unfold seqIndex?
  simp only [show ¬ ((i : Int) < 0) by omega, if_false]
  rw [if_pos (by simp; omega)]
  simp
theorem pick_drop (vs : List Value) {i : Nat} (hi : i ≤ vs.length) : slicePick vs.toArray (some (i : Int)) none none = (vs.drop i).toArray := by
  rw [PySem.W.kms_pick_eq]
  unfold PySem.W.kms_pick PySem.W.kms_lo PySem.W.kms_hi
  simp only [show ¬ ((i : Int) < 0) by omega, if_false, Int.toNat_natCast, Nat.min_eq_left hi]
  rw [List.take_of_length_le (by simp)]
theorem getItem_tuple_whole {prog : Program} {w : World} {A : Around} {E : Value → Shared → Prop} {s : Shared} {t sl : Addr} {items : Array Value} {u : Tok} {Q : Value → Shared → Prop} (ht : IsTup s.heap t items) (hs : s.heap.IsSliceOf sl (.int ((0 : Nat) : Int) u) .none .none)
    (h : Q (.ref t) s) : wpAny (model prog w) A (getItem (.ref t) (.ref sl)) Q E s := by
  obtain ⟨os, hos, hcs, hds⟩ := id hs
  have hTs : s.TypeIs (.ref sl) "slice" := ⟨os, hos, hcs⟩
  unfold getItem
  try with_reducible refine wpAny_holding ?_
  first | refine wpAny_bind (wpAny_pure ?_) | skip
  refine wpAny_bind (wpAny_sequenceKey ht.typeIs (by decide) ?_)
  refine wpAny_bind (wpAny_callSpecial?_slot (name := Str.ofString "__getitem__") ht.typeIs slot_tuple_getitem
    (wpAny_call_entry slot_tuple_getitem ht.typeIs entry_tuple_getitem ?_ (args_tuple_getitem _ _)))
  show wpAny _ _ (Builtin.Tuple.tupleItemsOf (.ref t) >>= _) _ _ s
  refine wpAny_bind (tupleItemsOf_ ht ?_)
  refine wpAny_bind (wpAny_typeOf hTs ?_)
  rw [if_pos (by decide)]
  refine wpAny_bind (sliceApplied_from hs (Nat.zero_le _) ?_)
  show wpAny _ _ (if ((((0 : Nat) : Int)) == 0 && (1 : Int) == 1 && (items.size - 0) == items.size) = true then _ else _) _ _ s
  rw [if_pos (by simp)]
  unfold Builtin.Tuple.tupleIsExact
  have hT := ht.typeIs
  wp_walk
  exact ⟨_, rfl, wpAny_pure h⟩
theorem seq_list {w : World} {IsFace : Int → Value → Prop} {l : Addr} {vs : List Value} {n : Nat} {ns : List Int} (hp : Paired IsFace ns vs) (hn24 : ns.length ≤ 24) : SeqOps w (fun h => h.get? l = some (W.listOf vs.toArray n)) IsFace (.ref l) ns where
  item := fun A E s i r t n1 n2 p1 p2 Q hok hi hQ => by
    obtain ⟨v, hv, hf⟩ := paired_get hp hi
    have hlt := (List.getElem?_eq_some_iff.mp hi).1
    exact tail_pos (items := vs.toArray) ⟨_, hok, rfl, n, rfl⟩ (by omega) (by omega) (by simpa using hv) (hQ v s.toks hf) (by with_unfolding_all rfl)
  out := fun A E s i c t n1 n2 p1 p2 Q hok hH hi hi2 hE =>
    tail_any (Heap.IsList.typeIs (items := vs.toArray) ⟨_, hok, rfl, n, rfl⟩) slot_list_getitem.lookup (getItem_list_out (items := vs.toArray) hH ⟨_, hok, rfl, n, rfl⟩ (by omega) (by rw [List.size_toArray, ← hp.length]; omega) (by omega) hE) (by with_unfolding_all rfl)
  slice := fun A E s i t n1 n2 p1 p2 p3 Q hok hi hn hQ => by
    have hl : s.heap.IsList l vs.toArray := ⟨_, hok, rfl, n, rfl⟩
    have hlen := hp.length
    refine slice_listK hl (IsPart.int _ _) .none ?_ (by with_unfolding_all rfl) (by intro _; with_unfolding_all rfl) (by rw [List.size_toArray, sizeLine_eq]; omega)
    refine hQ _ s.toks _ (fun b o e => Heap.get?_push_of_some _ (Heap.get?_push_of_some _ e)) (.inl ⟨_, vs.drop i, 0, rfl, ?_, paired_drop hp i⟩)
    rw [← pick_drop vs (by omega)]
    have := Heap.get?_push_size (s.heap.push { cls := .type "slice", data := .fields #[.int (i : Int) t, .none, .none] }) (o := { cls := .type "list", data := .seq (slicePick vs.toArray (some (i : Int)) none none) }) rfl
    rw [Heap.size_push] at this
    exact this
theorem seq_tuple {w : World} {IsFace : Int → Value → Prop} {l : Addr} {vs : List Value} {n : Nat} {ns : List Int} (hp : Paired IsFace ns vs) (hn24 : ns.length ≤ 24) : SeqOps w (fun h => h.get? l = some (tupO vs n)) IsFace (.ref l) ns where
  item := fun A E s i r t n1 n2 p1 p2 Q hok hi hQ => by
    obtain ⟨v, hv, hf⟩ := paired_get hp hi
    have hlt := (List.getElem?_eq_some_iff.mp hi).1
    have hlen := hp.length
    exact item_tuple (items := vs.toArray) (j := i) ⟨_, hok, rfl, n, rfl⟩ (by omega) (by omega) (seq_idx (by rw [List.size_toArray]; omega)) (by simpa using hv) (hQ v s.toks hf) (by with_unfolding_all rfl) (by intro _; with_unfolding_all rfl)
  out := fun A E s i c t n1 n2 p1 p2 Q hok hH hi hi2 hE =>
    tail_any (T := "tuple") ⟨_, hok, rfl⟩ slot_tuple_getitem.lookup (getItem_tuple_out (items := vs.toArray) hH hok (by omega) (by rw [List.size_toArray, ← hp.length]; omega) (by omega) hE) (by with_unfolding_all rfl)
  slice := fun A E s i t n1 n2 p1 p2 p3 Q hok hi hn hQ => by
    have hlen := hp.length
    have hok' : (s.heap.push { cls := .type "slice", data := .fields #[.int (i : Int) t, .none, .none] }).get? l = some (tupO vs n) := Heap.get?_push_of_some _ hok
    have ht : IsTup (s.heap.push { cls := .type "slice", data := .fields #[.int (i : Int) t, .none, .none] }) l vs.toArray := ⟨_, hok', rfl, n, rfl⟩
    refine tail_any (s := { s with heap := s.heap.push { cls := .type "slice", data := .fields #[.int (i : Int) t, .none, .none] } }) (T := "tuple") ⟨_, hok', rfl⟩ slot_tuple_getitem.lookup ?_ (by with_unfolding_all rfl)
    rcases Nat.eq_zero_or_pos i with rfl | h1
    · refine getItem_tuple_whole ht (Heap.IsSliceOf.new ..) ?_
      exact hQ _ s.toks _ (fun b o e => Heap.get?_push_of_some _ e) (.inr (.inl ⟨l, vs, n, rfl, hok', hp⟩))
    · refine getItem_tuple_from ht (Heap.IsSliceOf.new ..) h1 (by rw [List.size_toArray]; omega) ?_ (by rw [List.size_toArray, sizeLine_eq]; omega)
      exact hQ _ s.toks _ (fun b o e => Heap.get?_push_of_some _ (Heap.get?_push_of_some _ e)) (.inr (.inl ⟨_, vs.drop i, 0, rfl, Heap.get?_push_size _ rfl, paired_drop hp i⟩))
theorem paired_of_get {α β : Type} {P : α → β → Prop} : ∀ {xs : List α} {ys : List β}, xs.length = ys.length → (∀ (i : Nat) a b, xs[i]? = some a → ys[i]? = some b → P a b) → Paired P xs ys
  | [], [], _, _ => .nil
  | [], _ :: _, h, _ => nomatch h
  | _ :: _, [], h, _ => nomatch h
  | a :: xs, b :: ys, h, hp => .cons (hp 0 a b rfl rfl) (paired_of_get (by simpa using h) fun i a b h1 h2 => hp (i + 1) a b (by simpa using h1) (by simpa using h2))
theorem seq_str {w : World} {IsFace : Int → Value → Prop} {x : Str} {tx : Tok} {ns : List Int} (hx : x.cps.size = ns.length) (hc : ∀ (i : Nat) r, ns[i]? = some r → ∃ c, x.cps[i]? = some c ∧ ∀ t, IsFace r (.str ⟨#[c]⟩ t)) (hn24 : ns.length ≤ 24) {Ok : Heap → Prop} : SeqOps w Ok IsFace (.str x tx) ns where
  item := fun A E s i r t n1 n2 p1 p2 Q hok hi hQ => by
    obtain ⟨c, hcc, hf⟩ := hc i r hi
    have hlt := (List.getElem?_eq_some_iff.mp hi).1
    refine tail_any (typeIs_str s x tx) PySem.F.slot_str_getitem.lookup (PyProof.Rows.getItem_str (c := c) ?_ ?_ (hQ _ _ (hf _))) (by with_unfolding_all rfl)
    · simp only [Bool.or_eq_false_iff, decide_eq_false_iff_not]; omega
    · rw [seq_idx (show i < x.length by show i < x.cps.size; omega)]; exact hcc
  out := fun A E s i c t n1 n2 p1 p2 Q hok hH hi hi2 hE =>
    tail_any (typeIs_str s x tx) PySem.F.slot_str_getitem.lookup (getItem_str_out hH (by omega) (by show ((x.cps.size : Nat) : Int) ≤ _; omega) (by omega) hE) (by with_unfolding_all rfl)
  slice := fun A E s i t n1 n2 p1 p2 p3 Q hok hi hn hQ => by
    refine tail_any (s := { s with heap := s.heap.push { cls := .type "slice", data := .fields #[.int (i : Int) t, .none, .none] } }) (typeIs_str _ x tx) PySem.F.slot_str_getitem.lookup (wpAny_getItem_str_slice (l := some ((i : Int), t)) (u := none) (st := none) ⟨_, Heap.get?_push_size _ rfl, rfl, rfl⟩ (by decide) ?_) (by with_unfolding_all rfl)
    have hy := PyProof.Rows.slice_from_eq (x := x) (i := (i : Int)) (b := x.length) (by omega) (by show (i : Int) ≤ ((x.cps.size : Nat) : Int); omega) rfl
    have hdr : ((x.cps.toList.drop (i : Int).toNat).take ((x.length : Int) - (i : Int)).toNat) = x.cps.toList.drop i := by
      rw [Int.toNat_natCast]
      refine List.take_of_length_le ?_
      rw [List.length_drop, Array.length_toList]
      show x.cps.size - i ≤ (((x.cps.size : Nat) : Int) - (i : Int)).toNat
      omega
    rw [hdr] at hy
    have rest : ∀ (y : Str) (ty : Tok) (h : Heap), y = ⟨(x.cps.toList.drop i).toArray⟩ → RestAt IsFace (ns.drop i) (.str y ty) h := fun y ty h e => by
      subst e
      refine .inr (.inr ⟨_, ty, rfl, by simp [hx], fun vs hl hs => paired_of_get (by rw [hl]; simp [hx]) fun j r v h1 h2 => ?_⟩)
      obtain ⟨c, u, hcu, rfl⟩ := hs j v h2
      rw [List.getElem?_drop] at h1
      obtain ⟨c', hc', hf⟩ := hc _ r h1
      have : c = c' := by
        simp only [List.getElem?_toArray, List.getElem?_drop] at hcu
        rw [Array.getElem?_toList] at hcu
        rw [hc'] at hcu
        exact (Option.some.inj hcu).symm
      subst this
      exact hf u
    have up : ∀ b o, s.heap.get? b = some o → (s.heap.push { cls := .type "slice", data := .fields #[.int (i : Int) t, .none, .none] }).get? b = some o := fun b o e => Heap.get?_push_of_some _ e
    unfold Txt.slice at hy
    show (if ((1 : Int) == 1 && (Builtin.Str.strSliceIndices (some (i : Int)) none 1 x.length).length == x.length) = true then Made.val (.str x tx) else Made.str ⟨((Builtin.Str.strSliceIndices (some (i : Int)) none 1 x.length).filterMap (x.cps[·]?)).toArray⟩).post Q _
    by_cases hcond : ((1 : Int) == 1 && (Builtin.Str.strSliceIndices (some (i : Int)) none 1 x.length).length == x.length) = true
    · rw [if_pos hcond] at hy
      rw [if_pos hcond]
      exact hQ _ s.toks _ up (rest _ _ _ hy)
    · rw [if_neg hcond] at hy
      rw [if_neg hcond]
      refine ⟨?_, hQ _ (s.toks + 1) _ up (rest _ _ _ hy)⟩
      rw [hy]
      show ((x.cps.toList.drop i).toArray : Array Nat).size ≤ sizeLine
      rw [sizeLine_eq]
      simp only [List.size_toArray, List.length_drop, Array.length_toList]
      omega
end
section
open PySem PySem.W PyProof.Rows PyProof.V PySem.Spec PySem.Calls
section
local macro_rules | `(tactic| walk_at "call builtin:str.join") => `(tactic| refine halt ?_)
set_option maxRecDepth 100000 in
set_option maxHeartbeats 8000000 in
theorem given_spec {w : World} {mean : ExcName → Option Value} {mg mb : Str → Option Value} {h₀ : Heap} {e1 : Env} {L l : Addr} {m : Str → Option Value} {news : List (Addr × Obj)} {kz : Int} {t : Tok} {ys : List Str} {vs : List Value} {n : Nat}
    {s : Shared} {Q E : Value → Shared → Prop} (F : Fr h₀ L s.heap m) (X : (hd.heap_39 w.params).In h₀) (N : News h₀ L s.heap news) (T : TopH mean mg mb h₀)
    (hl : s.heap.get? l = some (W.listOf vs.toArray n)) (hn : vs.length ≤ 24)
    (hkz : kz = 0 ∨ kz = 1 ∨ kz = 2 ∨ kz = 3 ∨ kz = 4 ∨ kz = 5) (h5 : kz = 5 → StrsAre vs ys ∧ (ys.map (·.length)).sum ≤ 1000)
    (r4 : kz = 4 → ∀ D h' tk n, Fr h₀ L h' m → News h₀ L h' ((D, tupO vs n) :: news) → Q (.ref D) { s with heap := h', toks := tk })
    (r5 : kz = 5 → ∀ t' h' tk, Fr h₀ L h' m → News h₀ L h' news → Q (.str (Txt.join (Str.ofString "") ys) t') { s with heap := h', toks := tk })
    (r0 : kz ≠ 4 → kz ≠ 5 → ∀ h' tk, Fr h₀ L h' m → News h₀ L h' news → Q (.ref l) { s with heap := h', toks := tk }) :
    wpAny (model PG w) (callerA.deeper e1) (call (.ref 40) [.int kz t, .ref l]) Q E s := by
  refine' call_own (binds := [("kind", .int kz t), ("things", .ref l)]) F X T ?k6 ?k7 ?k8 ?k9 ?kB ?_ ?c5 ?c2 ?c3 ?c4
  case k6 => k_is
  case k7 => k_is
  case k8 => (simp only [depth_deeper, depth_caller]; decide)
  case k9 => exact BindsTo.of_eq rfl
  case kB => exact locs rfl
  case c5 => decide
  case c2 => exact rfl
  case c3 => exact rfl
  case c4 => exact rfl
  intro h₁ F' X' T'
  have F'' := fr_eq F' (lookup2 _ _ _ _)
  clear F'
  have hl1 : h₁.get? l = some (W.listOf vs.toArray n) := F''.keep _ _ hl
  have N0 : News s.heap s.heap.objs.size h₁ [] := News.nil
  have Nk : Halt (News h₀ L s.heap news) := N
  have Fk : Halt (Fr h₀ L s.heap m) := F
  clear N F
  try dsimp only
  rcases hkz with rfl | rfl | rfl | rfl | rfl | rfl
  case inr.inr.inr.inr.inl =>
    k_steps
    refine PySem.W.kde_tupleOf F'' N0 (l := l) (items := vs.toArray) ⟨_, hl1, rfl, n, rfl⟩ (by rw [List.size_toArray]; omega) (zs := vs) (by simp) ?_
    intro D h2 F2 N2 l2
    obtain ⟨F3, N3⟩ := back Fk Nk F2 N2
    exact r4 rfl _ _ _ _ F3 N3
  case inr.inr.inr.inr.inr =>
    obtain ⟨hs, hz⟩ := h5 rfl
    k_steps
    refine join_list (items := vs.toArray) ⟨_, hl1, rfl, n, rfl⟩ hs ?_ fun t' k => ?_
    · have := hs.length
      show (ys.map (·.length)).sum + ys.length * 0 ≤ 16777216
      omega
    · obtain ⟨F3, N3⟩ := back Fk Nk F'' N0
      exact r5 rfl _ _ _ F3 N3
  all_goals
    k_steps
    obtain ⟨F3, N3⟩ := back Fk Nk F'' N0
    exact r0 (by decide) (by decide) _ _ F3 N3
end
end
section
open PySem PySem.W PyProof.Rows PyProof.V PySem.Spec PySem.Calls
section
set_option maxRecDepth 100000 in
set_option maxHeartbeats 8000000 in
theorem cmp_spec {w : World} {mean : ExcName → Option Value} {mg mb : Str → Option Value} {h₀ : Heap} {e1 : Env} {L : Addr} {m : Str → Option Value} {news : List (Addr × Obj)} {v u : Value} {r q : Int} {Ok : Heap → Prop} {IsFace : Int → Value → Prop}
    {s : Shared} {Q E : Value → Shared → Prop} (F : Fr h₀ L s.heap m) (X : (hd.heap_39 w.params).In h₀) (N : News h₀ L s.heap news) (T : TopH mean mg mb h₀)
    (FO : FaceOps w Ok IsFace) (hok : ∀ h', (∀ b o, s.heap.get? b = some o → h'.get? b = some o) → Ok h') (h1 : IsFace r v) (h2 : IsFace q u)
    (ret : ∀ t' h' tk, Fr h₀ L h' m → News h₀ L h' news → Q (.int (if q < r then 1 else if r < q then -1 else 0) t') { s with heap := h', toks := tk }) :
    wpAny (model PG w) (callerA.deeper e1) (call (.ref 28) [v, u]) Q E s := by
  refine' call_own (binds := [("x", v), ("y", u)]) F X T ?k6 ?k7 ?k8 ?k9 ?kB ?_ ?c5 ?c2 ?c3 ?c4
  case k6 => k_is
  case k7 => k_is
  case k8 => (simp only [depth_deeper, depth_caller]; decide)
  case k9 => exact BindsTo.of_eq rfl
  case kB => exact locs rfl
  case c5 => decide
  case c2 => exact rfl
  case c3 => exact rfl
  case c4 => exact rfl
  intro h₁ F' X' T'
  have F'' := fr_eq F' (lookup2 _ _ _ _)
  clear F'
  have N0 : News s.heap s.heap.objs.size h₁ [] := News.nil
  have Nk : Halt (News h₀ L s.heap news) := N
  have Fk : Halt (Fr h₀ L s.heap m) := F
  clear N F
  try dsimp only
  k_steps
  refine FO.gt _ _ _ _ _ _ _ _ (Nat.le_of_ble_eq_true rfl) (hok _ F''.keep) h1 h2 fun h3 tk3 hk3 => ?_
  have F3 := F''.keeps hk3
  have N3 := N0.keeps hk3
  clear F'' N0
  by_cases hgt : q < r
  · have hlt : ¬ r < q := by omega
    rw [if_pos hgt] at ret
    rw [decide_eq_true hgt]
    try dsimp only
    k_steps
    refine FO.lt _ _ _ _ _ _ _ _ (Nat.le_of_ble_eq_true rfl) (hok _ F3.keep) h1 h2 fun h4 tk4 hk4 => ?_
    have F4 := F3.keeps hk4
    have N4 := N3.keeps hk4
    clear F3 N3
    rw [decide_eq_false hlt]
    try dsimp only
    k_steps
    obtain ⟨F5, N5⟩ := back Fk Nk F4 N4
    exact ret _ _ _ F5 N5
  · rw [if_neg hgt] at ret
    rw [decide_eq_false hgt]
    try dsimp only
    k_steps
    refine FO.lt _ _ _ _ _ _ _ _ (Nat.le_of_ble_eq_true rfl) (hok _ F3.keep) h1 h2 fun h4 tk4 hk4 => ?_
    have F4 := F3.keeps hk4
    have N4 := N3.keeps hk4
    clear F3 N3
    by_cases hlt : r < q
    · rw [if_pos hlt] at ret
      rw [decide_eq_true hlt]
      try dsimp only
      k_steps
      obtain ⟨F5, N5⟩ := back Fk Nk F4 N4
      exact ret _ _ _ F5 N5
    · rw [if_neg hlt] at ret
      rw [decide_eq_false hlt]
      try dsimp only
      k_steps
      obtain ⟨F5, N5⟩ := back Fk Nk F4 N4
      exact ret _ _ _ F5 N5
end
end
section
open PySem PySem.W PyProof.Rows PyProof.V PySem.Spec PySem.Calls
open PySem.SeqAt
/-- a given sequence: as the helper reads it, and its copy -/
structure GivenOps (w : World) (Ok : Heap → Prop) (IsFace : Int → Value → Prop) (v : Value) (ns : List Int) : Prop where
  seq : SeqOps w Ok IsFace v ns
  copy : ∀ (A : Around) (E : Value → Shared → Prop) (s : Shared) (n1 : Str) (p1 p3 : Pos) (Q : Value → Shared → Prop), Ok s.heap →
    (∀ h' tk v' (extra : List (Addr × Obj)), (∀ b o, s.heap.get? b = some o → h'.get? b = some o) → (∀ p ∈ extra, h'.get? p.1 = some p.2 ∧ s.heap.get? p.1 = none) →
      (∀ (A : Around) (s' : Shared), A.units ≤ 100 → Ok s'.heap → (∀ p ∈ extra, s'.heap.get? p.1 = some p.2) → EqAt A s' v v' true) → Q v' { s with heap := h', toks := tk }) →
    wpAny (model PG w) A (subscriptTail (.Name n1 p1) (.Slice none none none p3) v (.ref s.heap.objs.size)) Q E { s with heap := s.heap.push { cls := .type "slice", data := .fields #[.none, .none, .none] } }
theorem eqat_list_same {A : Around} {s : Shared} {l b : Addr} {its : Array Value} (hl : s.heap.IsList l its) (hb : s.heap.IsList b its) (hu : A.units ≤ 100) : EqAt A s (.ref l) (.ref b) true := by
  by_cases e : l = b
  · subst e; exact EqAt.same _
  · refine EqAt.of_refs e ?_
    have h := RcAt.lists (A := A) (e := fun _ => true) hl hb rfl (by unfold cLine; omega) fun j h1 h2 => EqAt.same _
    have e : ((List.range its.size).all fun _ => true) = true := List.all_eq_true.mpr fun _ _ => rfl
    rw [e] at h; exact h
theorem sld_ok {w : World} {Ok Ok' : Heap → Prop} {IsFace : Int → Value → Prop} {v : Value} {ns : List Int} (x : SeqOps w Ok IsFace v ns) (h : ∀ hp, Ok' hp → Ok hp) : SeqOps w Ok' IsFace v ns where
  item := fun A E s i r t n1 n2 p1 p2 Q hok => x.item A E s i r t n1 n2 p1 p2 Q (h _ hok)
  out := fun A E s i c t n1 n2 p1 p2 Q hok => x.out A E s i c t n1 n2 p1 p2 Q (h _ hok)
  slice := fun A E s i t n1 n2 p1 p2 p3 Q hok => x.slice A E s i t n1 n2 p1 p2 p3 Q (h _ hok)
theorem given_list {w : World} {IsFace : Int → Value → Prop} {l : Addr} {vs : List Value} {n : Nat} {ns : List Int} (hp : Paired IsFace ns vs) (hn24 : ns.length ≤ 24) : GivenOps w (fun h => h.get? l = some (W.listOf vs.toArray n)) IsFace (.ref l) ns where
  seq := seq_list hp hn24
  copy := fun A E s n1 p1 p3 Q hok hQ => by
    have hlen := hp.length
    refine slice_listK (items := vs.toArray) ⟨_, hok, rfl, n, rfl⟩ .none .none ?_ (by with_unfolding_all rfl) (by intro _; with_unfolding_all rfl) (by rw [List.size_toArray, sizeLine_eq]; omega)
    rw [slicePick_all]
    have hg := Heap.get?_push_size (s.heap.push { cls := .type "slice", data := .fields #[.none, .none, .none] }) (o := { cls := .type "list", data := .seq vs.toArray }) rfl
    rw [Heap.size_push] at hg
    refine hQ _ s.toks _ [(s.heap.objs.size + 1, { cls := .type "list", data := .seq vs.toArray })] (fun b o e => Heap.get?_push_of_some _ (Heap.get?_push_of_some _ e)) (fun p hq => ?_) fun A' s' hu hok' hx => ?_
    · rw [List.mem_singleton.mp hq]
      exact ⟨hg, Heap.get?_none_of_le (Nat.le_succ _)⟩
    · exact eqat_list_same (its := vs.toArray) ⟨_, hok', rfl, n, rfl⟩ ⟨_, hx _ (.head _), rfl, 0, rfl⟩ hu
theorem sliceApplied_none {prog : Program} {w : World} {A : Around} {E : Value → Shared → Prop} {s : Shared} {sl : Addr} {n : Nat} {Q : Int × Int × Nat → Shared → Prop} (hs : s.heap.IsSliceOf sl .none .none .none) (h : Q ((0 : Nat), 1, n - 0) s) :
    wpAny (model prog w) A (Builtin.Slice.sliceApplied (.ref sl) (pure (n : Int))) Q E s := by
  obtain ⟨os, hos, hcs, hds⟩ := id hs
  unfold Builtin.Slice.sliceApplied Builtin.Slice.sliceFields
  refine wpAny_bind (wpAny_bind (wpAny_field hos hds (x := .none) rfl (wpAny_bind (wpAny_field hos hds (x := .none) rfl (wpAny_bind (wpAny_field hos hds (x := .none) rfl (wpAny_pure ?_)))))))
  refine wpAny_bind (slicePart_none ?_)
  show wpAny _ _ (if ((1 : Int) == 0) = true then _ else _) _ _ s
  rw [if_neg (by decide)]
  refine wpAny_bind (slicePart_none (wpAny_bind (slicePart_none (wpAny_bind (wpAny_pure ?_)))))
  show wpAny _ _ (match Builtin.Slice.sliceAdjust none none 1 (n : Int) with | (lo, hi) => pure (lo, (1 : Int), Builtin.Slice.slicePlaces lo hi 1)) _ _ s
  have e : Builtin.Slice.sliceAdjust none none 1 (n : Int) = (((0 : Nat) : Int), (n : Int)) := by
    unfold Builtin.Slice.sliceAdjust
    simp
  rw [e]
  show wpAny _ _ (pure (((0 : Nat) : Int), (1 : Int), Builtin.Slice.slicePlaces ((0 : Nat) : Int) (n : Int) 1)) _ _ s
  rw [places_from 0 n (Nat.zero_le _)]
  exact wpAny_pure h
theorem getItem_tuple_copy {prog : Program} {w : World} {A : Around} {E : Value → Shared → Prop} {s : Shared} {t sl : Addr} {items : Array Value} {Q : Value → Shared → Prop} (ht : IsTup s.heap t items) (hs : s.heap.IsSliceOf sl .none .none .none)
    (h : Q (.ref t) s) : wpAny (model prog w) A (getItem (.ref t) (.ref sl)) Q E s := by
  obtain ⟨os, hos, hcs, hds⟩ := id hs
  have hTs : s.TypeIs (.ref sl) "slice" := ⟨os, hos, hcs⟩
  unfold getItem
  try with_reducible refine wpAny_holding ?_
  first | refine wpAny_bind (wpAny_pure ?_) | skip
  refine wpAny_bind (wpAny_sequenceKey ht.typeIs (by decide) ?_)
  refine wpAny_bind (wpAny_callSpecial?_slot (name := Str.ofString "__getitem__") ht.typeIs slot_tuple_getitem
    (wpAny_call_entry slot_tuple_getitem ht.typeIs entry_tuple_getitem ?_ (args_tuple_getitem _ _)))
  show wpAny _ _ (Builtin.Tuple.tupleItemsOf (.ref t) >>= _) _ _ s
  refine wpAny_bind (tupleItemsOf_ ht ?_)
  refine wpAny_bind (wpAny_typeOf hTs ?_)
  rw [if_pos (by decide)]
  refine wpAny_bind (sliceApplied_none hs ?_)
  show wpAny _ _ (if ((((0 : Nat) : Int)) == 0 && (1 : Int) == 1 && (items.size - 0) == items.size) = true then _ else _) _ _ s
  rw [if_pos (by simp)]
  unfold Builtin.Tuple.tupleIsExact
  have hT := ht.typeIs
  wp_walk
  exact ⟨_, rfl, wpAny_pure h⟩
theorem given_tuple {w : World} {IsFace : Int → Value → Prop} {l : Addr} {vs : List Value} {n : Nat} {ns : List Int} (hp : Paired IsFace ns vs) (hn24 : ns.length ≤ 24) : GivenOps w (fun h => h.get? l = some (tupO vs n)) IsFace (.ref l) ns where
  seq := seq_tuple hp hn24
  copy := fun A E s n1 p1 p3 Q hok hQ => by
    have hok' : (s.heap.push { cls := .type "slice", data := .fields #[.none, .none, .none] }).get? l = some (tupO vs n) := Heap.get?_push_of_some _ hok
    have ht : IsTup (s.heap.push { cls := .type "slice", data := .fields #[.none, .none, .none] }) l vs.toArray := ⟨_, hok', rfl, n, rfl⟩
    refine tail_any (s := { s with heap := s.heap.push { cls := .type "slice", data := .fields #[.none, .none, .none] } }) (T := "tuple") ⟨_, hok', rfl⟩ slot_tuple_getitem.lookup ?_ (by with_unfolding_all rfl)
    refine getItem_tuple_copy ht (Heap.IsSliceOf.new ..) ?_
    exact hQ _ s.toks _ [] (fun b o e => Heap.get?_push_of_some _ e) (fun p hq => nomatch hq) fun A' s' hu hok' hx => EqAt.same _
theorem given_str {w : World} {IsFace : Int → Value → Prop} {x : Str} {tx : Tok} {ns : List Int} (hx : x.cps.size = ns.length) (hc : ∀ (i : Nat) r, ns[i]? = some r → ∃ c, x.cps[i]? = some c ∧ ∀ t, IsFace r (.str ⟨#[c]⟩ t)) (hn24 : ns.length ≤ 24) {Ok : Heap → Prop} : GivenOps w Ok IsFace (.str x tx) ns where
  seq := seq_str hx hc hn24
  copy := fun A E s n1 p1 p3 Q hok hQ => by
    refine tail_any (s := { s with heap := s.heap.push { cls := .type "slice", data := .fields #[.none, .none, .none] } }) (typeIs_str _ x tx) PySem.F.slot_str_getitem.lookup (wpAny_getItem_str_slice (l := none) (u := none) (st := none) ⟨_, Heap.get?_push_size _ rfl, rfl, rfl⟩ (by decide) ?_) (by with_unfolding_all rfl)
    have up : ∀ b o, s.heap.get? b = some o → (s.heap.push { cls := .type "slice", data := .fields #[.none, .none, .none] }).get? b = some o := fun b o e => Heap.get?_push_of_some _ e
    have hlen : (Builtin.Str.strSliceIndices none none 1 x.length).length = x.length := by
      unfold Builtin.Str.strSliceIndices
      simp [sliceRange]
      split <;> omega
    show (if ((1 : Int) == 1 && (Builtin.Str.strSliceIndices none none 1 x.length).length == x.length) = true then Made.val (.str x tx) else Made.str ⟨((Builtin.Str.strSliceIndices none none 1 x.length).filterMap (x.cps[·]?)).toArray⟩).post Q _
    rw [if_pos (by rw [hlen]; simp)]
    exact hQ _ s.toks _ [] up (fun p hq => nomatch hq) fun A' s' hu hok' hx => EqAt.same _
theorem join_chars (cs : List Nat) : Txt.join (Str.ofString "") (cs.map fun c => (⟨#[c]⟩ : Str)) = ⟨cs.toArray⟩ := by
  rw [← PyProof.Rows.join_ones cs]
  cases cs with
  | nil => rfl
  | cons c r => exact PySem.StrLaws.glued_cons ⟨#[]⟩ (r.map fun c => (⟨#[c]⟩ : Str)) ⟨#[c]⟩
def CH : List Nat := [65, 66, 90, 97, 98, 122, 233, 955]
theorem ch_at : ∀ j : Nat, j < 8 → C5.getD j (.int 0) = .str ⟨#[CH.getD j 0]⟩
  | 0, _ => rfl
  | 1, _ => rfl
  | 2, _ => rfl
  | 3, _ => rfl
  | 4, _ => rfl
  | 5, _ => rfl
  | 6, _ => rfl
  | 7, _ => rfl
  | n + 8, h => absurd h (by omega)
theorem chars_of {fs : List Value} {ns : List Int} {vs : List Value} (hp : Paired (IsFaceK 5 fs) ns vs) : ∃ cs : List Nat, StrsAre vs (cs.map fun c => (⟨#[c]⟩ : Str)) ∧ cs.length = ns.length ∧
    ∀ (i : Nat) r, ns[i]? = some r → ∃ c, cs[i]? = some c ∧ ∀ t, IsFaceK 5 fs r (.str ⟨#[c]⟩ t) := by
  induction hp with
  | nil => exact ⟨[], .nil, rfl, fun i r h => by simp at h⟩
  | @cons r v ns vs h _ ih =>
    obtain ⟨cs, h1, h2, h3⟩ := ih
    obtain ⟨j, rfl, hj, ha⟩ := id h
    have ha' : AtomIs (C5.getD j (.int 0)) v := ha
    rw [ch_at j hj] at ha'
    obtain ⟨t, rfl⟩ := ha'
    refine ⟨CH.getD j 0 :: cs, .cons _ t h1, by simp [h2], fun i r hi => ?_⟩
    cases i with
    | zero =>
      simp at hi
      subst hi
      refine ⟨_, rfl, fun t => ⟨j, rfl, hj, ?_⟩⟩
      show AtomIs (C5.getD j (.int 0)) _
      rw [ch_at j hj]
      exact ⟨t, rfl⟩
    | succ i => simpa using h3 i r (by simpa using hi)
theorem given_all {w : World} {mean : ExcName → Option Value} {mg mb : Str → Option Value} {h₀ : Heap} {e1 : Env} {L l : Addr} {m : Str → Option Value} {news : List (Addr × Obj)} {k : Nat} {t : Tok} {fs vs : List Value} {n : Nat} {ns : List Int}
    {s : Shared} {Q E : Value → Shared → Prop} (F : Fr h₀ L s.heap m) (X : (hd.heap_39 w.params).In h₀) (N : News h₀ L s.heap news) (T : TopH mean mg mb h₀)
    (hk : k < 6) (hl : (l, W.listOf vs.toArray n) ∈ news) (hp : Paired (IsFaceK k fs) ns vs) (hn : ns.length ≤ 24)
    (ret : ∀ v extra Ok' h' tk, Fr h₀ L h' m → News h₀ L h' (extra ++ news) → GivenOps w Ok' (IsFaceK k fs) v ns → (∀ h : Heap, (∀ p ∈ extra ++ news, h.get? p.1 = some p.2) → Ok' h) → Q v { s with heap := h', toks := tk }) :
    wpAny (model PG w) (callerA.deeper e1) (call (.ref 40) [.int (k : Int) t, .ref l]) Q E s := by
  have hlen := hp.length
  by_cases h5 : k = 5
  · subst h5
    obtain ⟨cs, hs, hc1, hc2⟩ := chars_of hp
    refine given_spec (ys := cs.map fun c => (⟨#[c]⟩ : Str)) F X N T (N _ hl).1 (by omega) (by omega) (fun _ => ⟨hs, ?_⟩) (fun e => by omega) (fun _ t' h' tk F' N' => ?_) (fun _ e => absurd rfl e)
    · have : ((cs.map fun c => (⟨#[c]⟩ : Str)).map (·.length)).sum = cs.length := by
        rw [List.map_map]
        clear hs hc1 hc2
        induction cs with
        | nil => rfl
        | cons c r ih => simp only [List.map_cons, List.sum_cons, List.length_cons, Function.comp] at ih ⊢; rw [ih]; show 1 + _ = _; omega
      rw [this]; omega
    · rw [join_chars]
      exact ret _ [] (fun _ => True) h' tk F' N' (given_str (by simp [hc1]) (fun i r hi => by
        obtain ⟨c, h1, h2⟩ := hc2 i r hi
        exact ⟨c, by simpa using h1, h2⟩) hn) fun _ _ => trivial
  · refine given_spec (ys := []) F X N T (N _ hl).1 (by omega) (by omega) (fun e => by omega) (fun _ D h' tk n' F' N' => ?_) (fun e => by omega) (fun _ _ h' tk F' N' => ?_)
    · exact ret _ [(D, tupO vs n')] _ h' tk F' N' (given_tuple hp hn) fun h hk => hk _ (.head _)
    · exact ret _ [] _ h' tk F' N' (given_list hp hn) fun h hk => hk _ hl
end
section
open PySem PySem.W PyProof.Rows PyProof.V PySem.Spec PySem.Calls
open PySem.AutoSeq1 (wpAny_loadPart')
section
variable {prog : Program} {w : World} {A : Around} {E : Value → Shared → Prop} {s : Shared}
theorem next_tuple_item {it t : Addr} {i : Nat} {items : Array Value} {x : Value} {Q : Value → Shared → Prop} (hit : s.heap.IsTupleIter it t i) (ht : s.heap.IsTuple t items) (hx : items[i]? = some x)
    (hQ : ∀ h', h'.IsTupleIter it t (i + 1) → Heap.SameBut it s.heap h' → Q x { s with heap := h' }) : wpAny (model prog w) A (Builtin.SmallTypes.nextOf (.ref it)) Q E s := by
  obtain ⟨o, ho, hc, hd⟩ := id hit
  obtain ⟨ol, hol, _, nl, hdl⟩ := ht
  unfold Builtin.SmallTypes.nextOf
  refine wpAny_bind (wpAny_callSpecial?_slot (name := Str.ofString "__next__") hit.typeIs PySem.F.slot_tuple_iterator_next
    (wpAny_call_entry PySem.F.slot_tuple_iterator_next hit.typeIs PySem.F.entry_tuple_iterator_next ?_ (PySem.F.args_tuple_iterator_next_1 _)))
  show wpAny _ _ (field (.ref it) 0 >>= _) _ _ s
  refine wpAny_bind (wpAny_field ho hd (x := .ref t) rfl ?_)
  show wpAny _ _ (if (Value.ref t == Value.none) = true then _ else _) _ _ s
  rw [if_neg (show ¬ ((Value.ref t == Value.none) = true) from Bool.false_ne_true)]
  show wpAny _ _ (field (.ref it) 1 >>= _) _ _ s
  refine wpAny_bind (wpAny_field ho hd (x := .int i 0) rfl ?_)
  show wpAny _ _ (seqItems? (.ref t) >>= _) _ _ s
  refine wpAny_bind (wpAny_seqItems hol hdl ?_)
  simp only [Int.toNat_natCast, hx]
  refine wpAny_bind (wpAny_setField ho hd (by simp) (wpAny_pure ⟨x, rfl, wpAny_pure (hQ _ ?_ (Heap.SameBut.update ..))⟩))
  exact ⟨_, Heap.get?_update_self _ ho (Obj.isFreed_of_fields (Obj.data_mapFields hd _)), (Obj.cls_mapFields ..).trans hc, by
    rw [Obj.data_mapFields hd]; simp [rawInt]⟩
theorem next_tuple_end {it t : Addr} {i : Nat} {items : Array Value} {Q : Value → Shared → Prop} (hh : A.handled = none) (hit : s.heap.IsTupleIter it t i) (ht : s.heap.IsTuple t items) (hx : items[i]? = none)
    (hE : ∀ h' e, Heap.ExtBut it s.heap h' → (∃ o, h'.get? e = some o ∧ o.cls = .type "StopIteration") → E (.ref e) { s with heap := h' }) :
    wpAny (model prog w) A (Builtin.SmallTypes.nextOf (.ref it)) Q E s := by
  obtain ⟨o, ho, hc, hd⟩ := id hit
  obtain ⟨ol, hol, _, nl, hdl⟩ := ht
  unfold Builtin.SmallTypes.nextOf
  refine wpAny_bind (wpAny_callSpecial?_slot (name := Str.ofString "__next__") hit.typeIs PySem.F.slot_tuple_iterator_next
    (wpAny_call_entry PySem.F.slot_tuple_iterator_next hit.typeIs PySem.F.entry_tuple_iterator_next ?_ (PySem.F.args_tuple_iterator_next_1 _)))
  show wpAny _ _ (field (.ref it) 0 >>= _) _ _ s
  refine wpAny_bind (wpAny_field ho hd (x := .ref t) rfl ?_)
  show wpAny _ _ (if (Value.ref t == Value.none) = true then _ else _) _ _ s
  rw [if_neg (show ¬ ((Value.ref t == Value.none) = true) from Bool.false_ne_true)]
  show wpAny _ _ (field (.ref it) 1 >>= _) _ _ s
  refine wpAny_bind (wpAny_field ho hd (x := .int i 0) rfl ?_)
  show wpAny _ _ (seqItems? (.ref t) >>= _) _ _ s
  refine wpAny_bind (wpAny_seqItems hol hdl ?_)
  simp only [Int.toNat_natCast, hx]
  refine wpAny_bind (wpAny_rule (wpAny_bind (wpAny_setField ho hd (by simp) ?_)))
  show wpAny _ _ (newExc (.type "StopIteration") [] >>= _) _ _ _
  refine wpAny_bind ?_
  simp only [newExc, newTuple]
  refine wpAny_bind (wpAny_newObj_type ?_ (by size_fits))
  refine wpAny_bind (m := firstArgMember _ _) (wpAny_of_eq (a := Value.none) (by first | rfl | (simp only [firstArgMember]; rfl)) ?_)
  refine wpAny_newObj_type ?_ (by size_fits)
  simp only [raiseNew]
  refine wpAny_bind (wpAny_handled ?_)
  first | rw [show A.in1.handled = none from hh] | rw [hh]
  refine wpAny_bind (wpAny_pure (wpAny_throw ?_))
  exact hE _ _ (((Heap.SameBut.update ..).extBut.push _).push _) ⟨_, Heap.get?_push_size _ rfl, rfl⟩
end
theorem draws_tuple {prog : Program} {w : World} {A : Around} (hh : A.handled = none) (it l : Addr) (hne : l ≠ it) (items : Array Value) :
    Draws prog w A it [it, l] items.size (fun i v => items[i]? = some v) (fun i h => h.IsTupleIter it l i ∧ h.IsTuple l items) where
  live := fun _ _ st => let ⟨o, ho, _⟩ := st.1; ⟨o, ho⟩
  frame := fun _ _ _ st hk => ⟨st.1.at fun o e => hk it (by simp) o e, st.2.at fun o e => hk l (by simp) o e⟩
  item := fun i s Q E hi st hQ => by
    refine next_tuple_item st.1 st.2 (x := items[i]) (by simp [hi]) fun h' hit' hs' => ?_
    exact hQ _ h' s.toks (by simp [hi]) ⟨hit', st.2.at fun o e => hs'.extBut _ o hne e⟩ hs'
  done := fun s Q E st hE => next_tuple_end hh st.1 st.2 (by simp) hE
theorem meets_enum_tuple (l : Addr) (items : Array Value) (n : Nat) :
    Meets (Builtin.«enumerate.__new__» ⟨[.type "enumerate", .ref l], []⟩) (fun _ R s => s.heap.get? l = some { cls := .type "tuple", dict := none, data := .seq items n, slots := #[] } ∧
      R (.ok (.ret (.ref (s.heap.push { cls := .type "tuple_iterator", data := .fields #[.ref l, .int 0 0] }).objs.size)))
        { s with heap := (s.heap.push { cls := .type "tuple_iterator", data := .fields #[.ref l, .int 0 0] }).push { cls := .type "enumerate", data := .fields #[.none, .bool false, .ref s.heap.objs.size, rawInt 0, .none, .none] } }) :=
  .of_wp fun prog w A R s h => by
    obtain ⟨hp, g, d, tk, os⟩ := s; obtain ⟨hl, h⟩ := h
    have hsub := sub_enumerate
    have hL : Heap.IsTuple (Shared.heap ⟨hp, g, d, tk, os⟩) l items := ⟨_, hl, rfl, n, rfl⟩
    wp_walk using wpAny_loadPart' hl
    refine wpAny_stack_any fun st => wpAny_pure ?_
    split
    · rename_i c _ _ _ _ _
      cases (c == Value.type "enumerate")
      · wp_walk using wpAny_loadPart' hl, wpAny_pyIter_tuple hL
        exact ⟨_, rfl, h⟩
      · wp_walk using wpAny_loadPart' hl, wpAny_pyIter_tuple hL
        exact ⟨_, rfl, h⟩
    · wp_walk using wpAny_loadPart' hl, wpAny_pyIter_tuple hL
      exact ⟨_, rfl, h⟩
/-- what a turn of the loop over enumerate leaves -/
def TurnEnd2 (base : Heap) (L : Addr) (s : Shared) (ik iu : Addr × Obj) (fz : List (Addr × Obj)) (J : (Str → Option Value) → List (Addr × Obj) → Prop) (Q : Flow → Shared → Prop) (f : Flow) (s₂ : Shared) : Prop :=
  match f with
  | .ret v => Q (.ret v) s₂
  | .brk => Q .next s₂
  | _ => ∃ h' tk' m' news', s₂ = { s with heap := h', toks := tk' } ∧ Fr base L h' m' ∧ News base L h' (ik :: iu :: (news' ++ fz)) ∧ (∀ p ∈ news', p.1 ≠ ik.1 ∧ p.1 ≠ iu.1) ∧ J m' news'
section
variable {prog : Program} {w : World} {A : Around} {env : Env} {base : Heap} {L : Addr} {s : Shared}
theorem enum_loop {Q : Flow → Shared → Prop} {E : Value → Shared → Prop} {elts : List Expr} {kk : Nat} {tpos : Pos} {body : List Stmt} {K : Addr} {items : List Value} {n : Nat}
    {m₀ : Str → Option Value} {news fz : List (Addr × Obj)} (J : Nat → (Str → Option Value) → List (Addr × Obj) → Prop) (hh : A.handled = none)
    (hK : (K, ({ cls := .type "tuple", dict := none, data := .seq items.toArray n, slots := #[] } : Obj)) ∈ fz) (F : Fr base L s.heap m₀) (N : News base L s.heap (news ++ fz)) (hJ : J 0 m₀ news)
    (turn : ∀ I oI U oU T (i : Nat) t x m₁ news₁ h tk, items[i]? = some x → J i m₁ news₁ → (∀ p ∈ news₁ ++ fz, p.1 ≠ I ∧ p.1 ≠ U) → I ≠ U → Fr base L h m₁ → News base L h ((I, oI) :: (U, oU) :: (news₁ ++ fz)) → h.IsTuple T #[.int (i : Int) t, x] →
      (∀ p ∈ (I, oI) :: (U, oU) :: (news₁ ++ fz), p.1 ≠ T) → T ≠ L → base.get? T = none →
      wpAny (model prog w) A (assign (.Tuple elts kk tpos) env (.ref T)) (fun _ s₂ => wpAny (model prog w) A (execs body env) (TurnEnd2 base L s (I, oI) (U, oU) fz (J (i + 1)) Q) E s₂) E { s with heap := h, toks := tk })
    (done : ∀ m₁ news₁ h tk, J items.length m₁ news₁ → Fr base L h m₁ → News base L h (news₁ ++ fz) → Q .next { s with heap := h, toks := tk })
    (hE : PassesOwn (model prog w) A env E) :
    wpAny (model prog w) A (call (.type "enumerate") [.ref K]) (fun xv s₁ => wpAny (model prog w) A (pyIter xv) (fun it s₂ => codeAny (model prog w) A (.forLoop (.Tuple elts kk tpos) it body [] env) (fun r s' => match r with | .ok f => Q f s' | .error e => cameBackBy (model prog w) A env E e s') s₂) E s₁) E s := by
  have hKh := (N _ (List.mem_append_right _ hK)).1
  refine callType_new PySem.F.called_enumerate (by decide) (PySem.F.typeCall_enumerate_1 _) (PySem.F.newCall_enumerate_1 _) (fun obj => PySem.F.args_object_init_2 obj _) PySem.F.entry_enumerate_new
    (meets_enum_tuple K items.toArray n) ⟨hKh, ?_⟩
  have hz : (s.heap.push { cls := .type "tuple_iterator", data := .fields #[.ref K, .int 0 0] }).objs.size = s.heap.objs.size + 1 := Heap.size_push ..
  show _ ∧ _
  rw [hz]
  have he : IsEnum ((s.heap.push { cls := .type "tuple_iterator", data := .fields #[.ref K, .int 0 0] }).push
      { cls := .type "enumerate", data := .fields #[.none, .bool false, .ref s.heap.objs.size, rawInt 0, .none, .none] }) (s.heap.objs.size + 1) s.heap.objs.size 0 .none := by
    have := Heap.get?_push_size (s.heap.push { cls := .type "tuple_iterator", data := .fields #[.ref K, .int 0 0] })
      (o := { cls := .type "enumerate", data := .fields #[.none, .bool false, .ref s.heap.objs.size, rawInt 0, .none, .none] }) rfl
    rw [hz] at this; exact this
  have hup : ∀ b o, s.heap.get? b = some o → ((s.heap.push { cls := .type "tuple_iterator", data := .fields #[.ref K, .int 0 0] }).push
      { cls := .type "enumerate", data := .fields #[.none, .bool false, .ref s.heap.objs.size, rawInt 0, .none, .none] }).get? b = some o := fun b o e => Heap.get?_push_of_some _ (Heap.get?_push_of_some _ e)
  refine ⟨⟨_, he, rfl⟩, ?_⟩
  have hUit : ((s.heap.push { cls := .type "tuple_iterator", data := .fields #[.ref K, .int 0 0] }).push
      { cls := .type "enumerate", data := .fields #[.none, .bool false, .ref s.heap.objs.size, rawInt 0, .none, .none] }).IsTupleIter s.heap.objs.size K 0 := ⟨_, Heap.get?_push_of_some _ (Heap.get?_push_size _ rfl), rfl, rfl⟩
  generalize (s.heap.push { cls := .type "tuple_iterator", data := .fields #[.ref K, .int 0 0] }).push
      { cls := .type "enumerate", data := .fields #[.none, .bool false, .ref s.heap.objs.size, rawInt 0, .none, .none] } = H at he hup hUit ⊢
  have hKU : K ≠ s.heap.objs.size := Nat.ne_of_lt (Heap.lt_size hKh)
  have hKI : K ≠ s.heap.objs.size + 1 := Nat.ne_of_lt (Nat.lt_succ_of_lt (Heap.lt_size hKh))
  have hIU : s.heap.objs.size + 1 ≠ s.heap.objs.size := Nat.succ_ne_self _
  have hLlt := F.ns.lt
  have hLU : L ≠ s.heap.objs.size := Nat.ne_of_lt hLlt
  have hLI : L ≠ s.heap.objs.size + 1 := Nat.ne_of_lt (Nat.lt_succ_of_lt hLlt)
  have bU : base.get? s.heap.objs.size = none := next_is_new F
  have bI : base.get? (s.heap.objs.size + 1) = none := Heap.get?_none_of_le (Nat.le_trans F.above (Nat.le_trans (Nat.le_of_lt hLlt) (Nat.le_succ _)))
  have W := WalksT.enumerateD (prog := prog) (w := w) (A := A) (draws_tuple (A := A.in1) hh s.heap.objs.size K hKU items.toArray) (s.heap.objs.size + 1) hIU (by simp [hIU, Ne.symm hKI]) (by simp)
  have hnew : ∀ p ∈ news ++ fz, p.1 ≠ s.heap.objs.size + 1 ∧ p.1 ≠ s.heap.objs.size := fun p hp => by
    have := Heap.lt_size (N p hp).1
    exact ⟨Nat.ne_of_lt (Nat.lt_succ_of_lt this), Nat.ne_of_lt this⟩
  generalize s.heap.objs.size = U at *
  generalize U + 1 = I at *
  have hst0 : (∃ old, IsEnum H I U 0 old) ∧ H.IsTupleIter U K 0 ∧ H.IsTuple K items.toArray := ⟨⟨_, he⟩, hUit, ⟨_, hup _ _ hKh, rfl, n, rfl⟩⟩
  refine W.self 0 _ _ _ hst0 ?_
  refine codeAny_forLoop_any (target := .Tuple elts kk tpos) (it := .ref I)
    (fun k s' => ∃ h' tk m' news', ∃ i : Nat, s' = { s with heap := h', toks := tk } ∧ ((∃ old, IsEnum h' I U (i : Int) old) ∧ h'.IsTupleIter U K i ∧ h'.IsTuple K items.toArray) ∧ Fr base L h' m' ∧ News base L h' (news' ++ fz) ∧ (∀ p ∈ news' ++ fz, p.1 ≠ I ∧ p.1 ≠ U) ∧ J i m' news' ∧ i ≤ items.length ∧ k = items.length + 1 - i) ?_ (items.length + 1)
    ⟨H, s.toks, m₀, news, 0, rfl, hst0, F.keeps hup, N.grown hup, hnew, hJ, Nat.zero_le _, rfl⟩
  rintro k s' ⟨h', tk, m', news', i, rfl, hst', F', N', hnI', hJ', hi, rfl⟩
  have keep : ∀ h₁ : Heap, (∀ b o, b ∉ [I, U] → h'.get? b = some o → h₁.get? b = some o) → Fr base L h₁ m' ∧ News base L h₁ (news' ++ fz) := fun h₁ hk₁ =>
    ⟨⟨F'.ns.at' fun o e => hk₁ _ o (by simp [hLI, hLU]) e, fun b o e => hk₁ b o (fun q => by
        simp only [List.mem_cons, List.not_mem_nil, or_false] at q
        rcases q with rfl | rfl
        · rw [bI] at e; cases e
        · rw [bU] at e; cases e) (F'.keep b o e), F'.above⟩,
      fun p hp => ⟨hk₁ _ _ (by simp [(hnI' p hp).1, (hnI' p hp).2]) (N' p hp).1, (N' p hp).2⟩⟩
  by_cases hlt : i < items.length
  · refine W.item i _ _ _ (by simpa using hlt) hst' fun T vals h₁ tk₁ hP hTs htup hmid hk₁ => ?_
    obtain ⟨t, x, hx, rfl⟩ := hP
    have hx' : items[i]? = some x := by simpa using hx
    refine W.go elts kk tpos i T { s with heap := h₁, toks := tk₁ } _ _ hmid fun h₂ hst₂ hk₂ => ?_
    have hTw := W.apart i T h₁ hmid
    have htup₂ : h₂.IsTuple T #[.int (i : Int) t, x] := htup.at fun o e => hk₂ _ o hTw e
    obtain ⟨F₂, N₂⟩ := keep h₂ fun b o hb e => hk₂ b o hb (hk₁ b o hb e)
    obtain ⟨⟨old, hold⟩, hU₂, _⟩ := id hst₂
    obtain ⟨oU, hoU, _⟩ := id hU₂
    obtain ⟨oI, hoI, hoIs⟩ : ∃ oI, h₂.get? I = some oI ∧ ∀ h3 : Heap, h3.get? I = some oI → ∃ old, IsEnum h3 I U ((i + 1 : Nat) : Int) old := ⟨_, hold, fun h3 e => ⟨old, e⟩⟩
    have N₃ : News base L h₂ ((I, oI) :: (U, oU) :: (news' ++ fz)) := fun p hp => by
      rcases List.mem_cons.mp hp with rfl | hp
      · exact ⟨hoI, Ne.symm hLI, bI⟩
      rcases List.mem_cons.mp hp with rfl | hp
      · exact ⟨hoU, Ne.symm hLU, bU⟩
      · exact N₂ p hp
    have hTge : ∀ b o, h'.get? b = some o → b ≠ T := fun b o e q => by
      have := Heap.lt_size e
      rw [q] at this
      exact Nat.lt_irrefl _ (Nat.lt_of_lt_of_le this hTs)
    have hTI : T ≠ I ∧ T ≠ U := by simpa using hTw
    refine wpAny_passesOwn hE (wpAny_mono (turn I oI U oU T i t x m' news' h₂ tk₁ hx' hJ' hnI' hIU F₂ N₃ htup₂ (fun p hp => ?_) ?_ ?_) (fun _ s₂ h₂ => wpAny_passesOwn hE (wpAny_mono h₂ (fun f s₃ h₃ => ?_) fun _ _ x => x)) fun _ _ x => x)
    · rcases List.mem_cons.mp hp with rfl | hp
      · exact Ne.symm hTI.1
      rcases List.mem_cons.mp hp with rfl | hp
      · exact Ne.symm hTI.2
      · exact hTge _ _ (N' p hp).1
    · obtain ⟨oL, _, _, hL, _⟩ := F'.ns
      exact Ne.symm (hTge _ _ hL)
    · cases e : base.get? T with
      | none => rfl
      | some o => exact absurd rfl (hTge _ _ (F'.keep _ _ e))
    have fin : (∃ h' tk' m' news', s₃ = { s with heap := h', toks := tk' } ∧ Fr base L h' m' ∧ News base L h' ((I, oI) :: (U, oU) :: (news' ++ fz)) ∧ (∀ p ∈ news', p.1 ≠ I ∧ p.1 ≠ U) ∧ J (i + 1) m' news') →
        ∃ m, m < items.length + 1 - i ∧ ∃ h' tk m' news', ∃ j : Nat, s₃ = { s with heap := h', toks := tk } ∧ ((∃ old, IsEnum h' I U (j : Int) old) ∧ h'.IsTupleIter U K j ∧ h'.IsTuple K items.toArray) ∧ Fr base L h' m' ∧ News base L h' (news' ++ fz) ∧ (∀ p ∈ news' ++ fz, p.1 ≠ I ∧ p.1 ≠ U) ∧ J j m' news' ∧ j ≤ items.length ∧ m = items.length + 1 - j := by
      rintro ⟨h₃', tk₃, m₂, news₂, rfl, F₃, N₃, hn₃, hJ₃⟩
      refine ⟨items.length + 1 - (i + 1), by omega, h₃', tk₃, m₂, news₂, i + 1, rfl, ⟨hoIs _ (N₃ _ (.head _)).1, ?_, ⟨_, (N₃ _ (.tail _ (.tail _ (List.mem_append_right _ hK)))).1, rfl, n, rfl⟩⟩, F₃, fun p hp => N₃ p (.tail _ (.tail _ hp)), fun p hp => ?_, hJ₃, hlt, rfl⟩
      · obtain ⟨o, ho, r⟩ := hU₂
        rw [hoU] at ho
        cases ho
        exact ⟨oU, (N₃ _ (.tail _ (.head _))).1, r⟩
      · rcases List.mem_append.mp hp with hp | hp
        · exact hn₃ p hp
        · exact hnI' p (List.mem_append_right _ hp)
    cases f with
    | ret v => exact h₃
    | brk => exact h₃
    | next => exact fin h₃
    | cont => exact fin h₃
  · have hin : i = items.length := by omega
    subst hin
    refine W.done { s with heap := h', toks := tk } _ _ (by simpa using hst') fun h₁ tk₁ hk₁ => wpAny_execs_nil ?_
    obtain ⟨F₁, N₁⟩ := keep h₁ hk₁
    exact done m' news' h₁ tk₁ hJ' F₁ N₁
/-- a turn, with what comes after it kept out of sight -/
theorem opq_for2 {c : Sem Unit} {body : List Stmt} {J : (Str → Option Value) → List (Addr × Obj) → Prop} {Q : Flow → Shared → Prop} {E : Value → Shared → Prop} {ik iu : Addr × Obj} {fz : List (Addr × Obj)} {h : Heap} {tk : Nat}
    (H : ∀ (σ : Shared) (K : Flow → Shared → Prop),
      (∀ f h tk, TurnEnd2 base L s ik iu fz J Q f { s with heap := h, toks := tk } → K f { σ with heap := h, toks := tk }) →
      wpAny (model prog w) A c (fun _ s₂ => wpAny (model prog w) A (execs body env) K E s₂) E { σ with heap := h, toks := tk }) :
    wpAny (model prog w) A c (fun _ s₂ => wpAny (model prog w) A (execs body env) (TurnEnd2 base L s ik iu fz J Q) E s₂) E { s with heap := h, toks := tk } :=
  H s _ (fun _ _ _ h => h)
end
end
section
open PySem PySem.W PyProof.Rows PyProof.V PySem.Spec PySem.Calls
open PySem.SeqAt
theorem eqat_faces {w : World} {Ok : Heap → Prop} {IsFace : Int → Value → Prop} (FO : FaceOps w Ok IsFace) {A : Around} {s : Shared} {l b : Addr} {rs : List Int} {vs us : List Value} {n n2 : Nat} (hok : Ok s.heap)
    (hl : s.heap.get? l = some (W.listOf vs.toArray n)) (hb : s.heap.get? b = some (W.listOf us.toArray n2)) (h1 : Paired IsFace rs vs) (h2 : Paired IsFace rs us) (hu : A.units ≤ 100) : EqAt A s (.ref l) (.ref b) true := by
  by_cases e : l = b
  · subst e; exact EqAt.same _
  · refine EqAt.of_refs e ?_
    have l1 := h1.length
    have l2 := h2.length
    have h := RcAt.lists (A := A) (s := s) (l := l) (b := b) (items := vs.toArray) (items2 := us.toArray) (e := fun _ => true) ⟨_, hl, rfl, n, rfl⟩ ⟨_, hb, rfl, n2, rfl⟩ (by rw [List.size_toArray, List.size_toArray]; omega) (by unfold cLine; omega) fun j j1 j2 => by
      have j1' : j < vs.length := by simpa using j1
      have j2' : j < us.length := by simpa using j2
      have a1 := paired_at h1 j rs[j] vs[j] (List.getElem?_eq_getElem (by omega)) (List.getElem?_eq_getElem j1')
      have a2 := paired_at h2 j rs[j] us[j] (List.getElem?_eq_getElem (by omega)) (List.getElem?_eq_getElem j2')
      simpa using FO.same A.in1 s _ _ _ hok a1 a2
    have e : ((List.range vs.toArray.size).all fun _ => true) = true := List.all_eq_true.mpr fun _ _ => rfl
    rw [e] at h; exact h
theorem ne_tuples {prog : Program} {w : World} {A : Around} {E : Value → Shared → Prop} {s : Shared} {T1 T2 : Addr} {a b c d : Value} {n1 n2 : Nat} {Q : Value → Shared → Prop} (h1 : s.heap.get? T1 = some ({ cls := .type "tuple", data := .seq #[a, b] n1 } : Obj)) (h2 : s.heap.get? T2 = some ({ cls := .type "tuple", data := .seq #[c, d] n2 } : Obj))
    (hu : A.units ≤ 90) (e1 : EqAt A.in1 s a c true) (e2 : EqAt A.in1 s b d true) (h : Q (.bool false) s) : wpAny (model prog w) A (compareOp .NotEq (.ref T1) (.ref T2)) Q E s := by
  have hr := RcNeAt.tuples (A := A) (s := s) (l := T1) (b := T2) (items := #[a, b]) (items2 := #[c, d]) (e := fun _ => true) ⟨_, h1, rfl, n1, rfl⟩ ⟨_, h2, rfl, n2, rfl⟩ (by unfold cLine; omega) fun j j1 j2 => by
    rcases j with _ | _ | j
    · exact e1
    · exact e2
    · have : j + 1 + 1 < 2 := j1
      omega
  exact hr prog w E Q h
theorem head_name {base h : Heap} {L K : Addr} {o : Obj} {rest : List (Addr × Obj)} (N : News base L h ((K, o) :: rest)) : ∃ K', K' = K ∧ News base L h ((K', o) :: rest) := ⟨K, rfl, N⟩
theorem news_extra {base h h' : Heap} {L : Addr} {m : Str → Option Value} {Z xc : List (Addr × Obj)} (F : Fr base L h m) (N : News base L h Z) (k : ∀ b o, h.get? b = some o → h'.get? b = some o) (hx : ∀ p ∈ xc, h'.get? p.1 = some p.2 ∧ h.get? p.1 = none) : News base L h' (xc ++ Z) := by
  intro p hp
  rcases List.mem_append.mp hp with hp | hp
  · obtain ⟨h1, h2⟩ := hx p hp
    refine ⟨h1, fun e => ?_, TT.none_of F.keep h2⟩
    obtain ⟨oL, _, _, hL, _⟩ := F.ns
    rw [e, hL] at h2; cases h2
  · exact ⟨k _ _ (N p hp).1, (N p hp).2⟩
end
section
open PySem PySem.W PyProof.Rows PyProof.V PySem.Spec PySem.Calls
def LawEnd (s : Shared) (f : Flow) (s' : Shared) : Prop := f = .ret (.bool true) ∧ ∃ h tk m, s' = { s with heap := h, toks := tk } ∧ Fr s.heap s.heap.objs.size h m
theorem sign_ok (a b : Int) : (if b < a then (1:Int) else if a < b then -1 else 0) = if (if a - b < 1 then a - b else 1) > -1 then (if a - b < 1 then a - b else 1) else -1 := by
  (repeat' split) <;> omega
theorem ints_of_all : ∀ {vs : List Value}, (∀ v ∈ vs, ∃ n t, v = Value.int n t) → ∃ ns, IntsAre vs ns
  | [], _ => ⟨[], .nil⟩
  | v :: vs, h => by
    obtain ⟨n, t, rfl⟩ := h v (.head _)
    obtain ⟨ns, hn⟩ := ints_of_all fun v hv => h v (.tail _ hv)
    exact ⟨n :: ns, .cons n t hn⟩
theorem ints_mem {vs : List Value} {ns : List Int} (h : IntsAre vs ns) : ∀ v ∈ vs, ∃ n t, v = Value.int n t := by
  induction h with
  | nil => exact fun v hv => nomatch hv
  | cons n t _ ih =>
    intro v hv
    rcases List.mem_cons.mp hv with rfl | hv
    · exact ⟨n, t, rfl⟩
    · exact ih v hv
theorem pick_ints {vs : List Value} {ns : List Int} (h : IntsAre vs ns) (lo hi st : Option Int) : ∃ ms, IntsAre (slicePick vs.toArray lo hi st).toList ms := by
  refine ints_of_all fun v hv => ints_mem h v ?_
  unfold slicePick at hv
  simp only [List.toList_toArray, List.mem_filterMap] at hv
  obtain ⟨i, _, hi⟩ := hv
  exact List.mem_of_getElem? (by simpa using hi)
section
variable {prog : Program} {w : World} {A : Around} {E : Value → Shared → Prop} {s : Shared}
theorem slice3K {value slice : Expr} {l : Addr} {items : Array Value} {vl vu vk : Value} {lo hi st : Option Int} {ops : List Value} {Q : Value → Shared → Prop}
    (hl : s.heap.IsList l items) (pl : IsPart vl lo) (pu : IsPart vu hi) (pk : IsPart vk st) (h0 : st ≠ some 0)
    (h : ∀ D h', (∀ b o, s.heap.get? b = some o → h'.get? b = some o) → h'.get? D = some { cls := .type "list", data := .seq (slicePick items lo hi st) } → Q (.ref D) { s with heap := h' })
    (hs : subscripted slice false (.ref l) (.ref s.heap.objs.size) = operate ops (getItem (.ref l) (.ref s.heap.objs.size)))
    (ht : ∀ r, letTemporaryGo value (.ref l) r = pure ())
    (hsz : items.size ≤ sizeLine) :
    wpAny (model prog w) A (subscriptTail value slice (.ref l) (.ref s.heap.objs.size)) Q E { s with heap := s.heap.push { cls := .type "slice", data := .fields #[vl, vu, vk] } } := by
  refine subscriptTail_ops (Heap.IsList.typeIs (s := { s with heap := s.heap.push { cls := .type "slice", data := .fields #[vl, vu, vk] } }) (hl.push _)) list_getitem_lookup
    (wpAny_getItem_list_slice (hl.push _) (Heap.IsSliceOf.new ..) pl pu pk h0 ?_ hsz) hs ht
  exact h _ _ (fun b o e => Heap.get?_push_of_some _ (Heap.get?_push_of_some _ e)) (Heap.get?_push_size _ rfl)
theorem sum_K {l : Addr} {vs : List Value} {ns : List Int} {Q : Value → Shared → Prop} (hh : A.handled = none) (hl : s.heap.IsList l vs.toArray) (hi : IntsAre vs ns)
    (h : ∀ h' tk n t', (∀ b o, s.heap.get? b = some o → h'.get? b = some o) → Q (.int n t') { s with heap := h', toks := tk }) : wpAny (model prog w) A (call (.builtin "sum") [.ref l]) Q E s := by
  obtain ⟨xs, hx⟩ := hi.allInts.items
  have hl' : s.heap.IsList l (intItems xs) := hx ▸ hl
  exact sum_intListG hh hl' fun h' tk t' hk => h h' tk _ t' hk
end
section
variable {w : World} {A : Around} {E : Value → Shared → Prop} {s : Shared}
/-- a face by its index -/
theorem item_face {prog : Program} {value slice : Expr} {f : Addr} {fs : List Value} {kk : Int} {u : Tok} {Q : Value → Shared → Prop} (ht : s.heap.get? f = some (tupO fs 0)) (h8 : fs.length = 8) (hk : 0 ≤ kk ∧ kk < 8)
    (h : ∀ (j : Nat) (v : Value), kk = (j : Int) → j < 8 → fs[j]? = some v → Q v s)
    (hs : subscripted slice false (.ref f) (.int kk u) = operate [.ref f, .int kk u] (getItem (.ref f) (.int kk u))) (hg : ∀ r, letTemporaryGo value (.ref f) r = pure ()) :
    wpAny (model prog w) A (subscriptTail value slice (.ref f) (.int kk u)) Q E s := by
  obtain ⟨j, rfl⟩ := Int.eq_ofNat_of_zero_le hk.1
  have hj : j < 8 := by omega
  obtain ⟨fv, hfv⟩ : ∃ fv, fs[j]? = some fv := ⟨_, List.getElem?_eq_getElem (by omega)⟩
  exact item_tuple (items := fs.toArray) (j := j) ⟨_, ht, rfl, 0, rfl⟩ (by omega) (by omega) (seq_idx (by rw [List.size_toArray]; omega)) (by simpa using hfv) (h j fv rfl hj hfv) hs hg
end
theorem fm8 (k : Int) : 0 ≤ (k.fdiv 3).fmod 8 ∧ (k.fdiv 3).fmod 8 < 8 := by
  rw [Int.fmod_eq_emod_of_nonneg _ (by decide)]; omega
theorem fm2 (k : Int) : (k.fdiv 24).fmod 2 = 0 ∨ (k.fdiv 24).fmod 2 = 1 := by
  rw [Int.fmod_eq_emod_of_nonneg _ (by decide)]; omega
theorem ar_xz {x : Int} (h : x = 0 ∨ x = 1) : (1 + x).toNat ≤ 2 := by omega
theorem ar_x0 {x : Int} (h : x = 0 ∨ x = 1) : 0 ≤ 1 + x ∧ 1 + x ≤ 2 := by omega
theorem ar_lo {x : Int} (h : 0 ≤ x ∧ x ≤ 2) : -2 ^ 63 ≤ x := by omega
theorem ar_hi {x : Int} (h : 0 ≤ x ∧ x ≤ 2) : x < 2 ^ 63 := by omega
theorem ar_sz {n : Nat} (h : n ≤ 2) : (0 + 1) * n ≤ 2 ^ 24 := by omega
theorem ar_sz2 {n : Nat} (h : n ≤ 2) : n * (0 + 1) ≤ 2 := by omega
theorem ar_ext {v n c d i y : Nat} (h1 : v = n) (h2 : n ≤ 2 * i) (h3 : i < y) (h4 : y ≤ 12) (h5 : c = d) (h6 : d ≤ 2) : v + c ≤ 1000 := by omega
theorem len2 {ns cns : List Int} {i : Nat} (h : ns.length ≤ 2 * i) (h2 : cns.length ≤ 2) : (ns ++ cns).length ≤ 2 * (i + 1) := by
  rw [List.length_append]; omega
theorem len2' {n i : Nat} (h : n ≤ 2 * i) : n ≤ 2 * (i + 1) := by omega
theorem ar_24 {n y : Nat} (h : n ≤ 2 * y) (h2 : y ≤ 12) : n ≤ 24 := by omega
theorem le1000 {n : Nat} (h : n ≤ 24) : n ≤ 1000 := Nat.le_trans h (by decide)
theorem ar_get {vs : List Value} {ns : List Int} {j : Nat} {a : Value} (h : vs.length = ns.length) (e : vs[j]? = some a) : j < ns.length := h ▸ (List.getElem?_eq_some_iff.mp e).1
theorem ce_local {M : Model} {A : Around} {E : Value → Shared → Prop} {s : Shared} {h₀ : Heap} {C : Addr} {scope : Scope} {cl : List (Str × Addr)} {env : Env} {m : Str → Option Value} {x : Str} {pos : Pos} {v : Value} {Q : Value → Shared → Prop} (F : Fr h₀ C s.heap m)
    (hk : (compEnvC scope cl C env).scope.kind = .function) (hx : (compEnvC scope cl C env).kindOf x = some .local) (hm : m x = some v) (hb : (x == ("__debug__" : Str)) = false) (h : Q v s) : wpAny M A (eval (.Name x pos) (compEnvC scope cl C env)) Q E s :=
  wpAny_Name (wpAny_loadName_local hk hx F.ns hm h) hb
section
local macro_rules | `(tactic| walk_at "SUB") => `(tactic| first | (refine List.forall_mem_cons.mpr ⟨by walk_at "MEM", ?_⟩; walk_at "SUB") | (refine List.forall_mem_append.mpr ⟨?_, ?_⟩ <;> walk_at "SUB") | exact List.forall_mem_nil _ | (intro p hp; walk_at "MEM"))
local macro_rules | `(tactic| walk_at "MEM") => `(tactic| first | assumption | exact List.Mem.head _ | (refine List.Mem.tail _ ?_; walk_at "MEM") | (refine List.mem_append_left _ ?_; walk_at "MEM") | (refine List.mem_append_right _ ?_; walk_at "MEM"))
local macro_rules | `(tactic| walk_at "exec Assign cons ListComp") => `(tactic| refine halt ?_)
local macro_rules | `(tactic| walk_at "exec For Name Name cons nil") => `(tactic| refine halt ?_)
local macro_rules | `(tactic| walk_at "exec For Tuple Call cons nil") => `(tactic| refine halt ?_)
local macro_rules | `(tactic| walk_at "eval Name") => `(tactic| ((with_reducible show wpAny _ _ (eval (Expr.Name _ _) (compEnvC _ _ _ _)) _ _ _); refine ce_local (by assumption) rfl rfl rfl (by decide) ?_))
local macro_rules | `(tactic| walk_at "call ref") => `(tactic| refine halt ?_)
local macro_rules | `(tactic| walk_at "subscriptTail Name Name ref int") => `(tactic| refine halt ?_)
local macro_rules | `(tactic| walk_at "subscriptTail Name Constant ref int") => `(tactic| refine halt ?_)
local macro_rules | `(tactic| walk_at "compareOp NotEq ref ref") => `(tactic| refine halt ?_)
local macro_rules | `(tactic| walk_at "call type:enumerate") => `(tactic| refine halt ?_)
local macro_rules | `(tactic| walk_at "call type:zip") => `(tactic| refine halt ?_)
local macro_rules | `(tactic| walk_at "eval ListComp") => `(tactic| refine halt ?_)
local macro_rules | `(tactic| walk_at "call builtin:sum") => `(tactic| refine halt ?_)
local macro_rules | `(tactic| walk_at "binaryOp Mult ref int") => `(tactic| refine halt ?_)
local macro_rules | `(tactic| walk_at "call builtin:list.extend") => `(tactic| refine halt ?_)
local macro_rules | `(tactic| walk_at "subscriptTail Name Slice ref ref") => `(tactic| refine halt ?_)
set_option maxRecDepth 100000 in
set_option maxHeartbeats 8000000 in
theorem law_try : PySem.Challenge.rw_sr0099_01.Holds := hd (by
  k_go0
  rename_i w s0 s1 mg mb G Y fa o pm doc ho hg X0 MX V GL T0 B TE TW wa wb M wc wd hcd ns0 hs hlay hLay hr1 hl2 wg wh l0 vs0 wi hL ra w1 r0 hI hr2 hc1 hc2 K0 hD h1 tk1 F0 oc1 oc2 hcell1 hcell2 N0 Y0
  refine wpAny_mono (Q := LawEnd s1) (E := fun _ _ => False) ?main ?fin (fun _ _ h => h.elim)
  case fin =>
    rintro f s' ⟨rfl, h', tk', m', rfl, F9⟩
    dsimp only
    wrow_close
  have hd1 : oc1.data = .cell none := hcell1
  have hd2 : oc2.data = .cell (some (.ref l0)) := hcell2
  have F1 := fr_eq F0 (show _ = (fun _ : Str => (none : Option Value)) from by funext z; rfl)
  have hlen0 : ns0.length ≤ 63 := by omega
  clear F0 G Y ho hg MX V GL B TE TW M hcd hs hlay hLay hr1 hl2 ra w1 r0 hr2 K0 hD Y0 hcell1 hcell2 hc1 hc2
  k_steps
  refine Assign_range (G := fun v => ∃ k t, v = Value.int k t) F1 rfl (by with_unfolding_all rfl) (by with_unfolding_all rfl) (by decide) rfl (by decide) rfl rfl rfl ?_ (fun _ => rfl)
  k_steps
  rename Fr _ _ _ _ => F2
  rename News _ _ _ _ => N2
  rename IsRange _ _ _ _ _ _ _ _ => hr
  unfold Halt
  refine ⟨_, _, _, _, _, _, rfl, hr, ?_, ?_, F2, N2, ?elt, ?post⟩
  case elt =>
    intro C i t s₃ m₃ E' F3 hm N3
    have F3' := fr_eq F3 (ov_self hm)
    clear F3 F2 N2 F1
    have hL3 := hL.at fun o e => F3'.keep _ o e
    k_steps
    refine slice3K hL3 (IsPart.int _ _) .none (IsPart.int _ _) (by decide) (fun D h4 hk4 hD4 => ?_) (by with_unfolding_all rfl) (by intro _; with_unfolding_all rfl) ?_
    · obtain ⟨ms, hms⟩ := pick_ints hI (some (i : Int)) none (some 12)
      try dsimp only
      k_steps
      refine sum_K rfl ⟨_, hD4, rfl, 0, by (first | walk_at "MEM" | simp)⟩ hms fun h5 tk5 n t5 hk5 => ?_
      exact ⟨⟨_, _, rfl⟩, _, _, rfl, fun b o e => hk5 b o (hk4 b o e)⟩
    · rw [List.size_toArray, hI.length, sizeLine_eq]; omega
  case post =>
    intro D h6 tk6 ys n6 F6 N6 hD6 hl6 hys
    clear F2 N2 F1
    try dsimp only
    k_steps
    rename Fr _ _ _ _ => F7
    rename News _ _ _ _ => N7
    rename_i Lh _ lh Lt _ lt T1 _ lT _ _ _ _ _
    have N8 := News.sub (l' := [(Lt, W.listOf #[] 0), (Lh, W.listOf #[] 0)] ++ [(D, W.listOf ys.toArray n6), (_, _), (_, _)]) N7 (fun p hp => List.mem_cons_of_mem _ hp)
    have hLhD : @LT.lt Nat _ D Lh := lh.1
    have hLtD : @LT.lt Nat _ D Lt := lt.2.1
    have hLhLt : @LT.lt Nat _ Lh Lt := lt.1
    have hlen6 : ys.length ≤ 12 := by rw [hl6]; split <;> omega
    have hLhC := lh.2
    have hLtC := lt.2.2
    clear lh lt lT N7
    refine For_list (l := D) (items := ys.toArray) (news := [(Lt, W.listOf #[] 0), (Lh, W.listOf #[] 0)]) (fun i mm nl => ∀ P : Prop, (∀ (u1 u2 : Option Value) (vh vt : List Value) (nh nt : Nat) (ns ms : List Int),
      mm = (fun z => if z = ("copies" : Str) then u1 else if z = "number" then u2 else if z = "here" then some (.ref Lh) else if z = "there" then some (.ref Lt) else if z = "drawn" then some (.ref D) else none) →
      nl = [(Lt, W.listOf vt.toArray nt), (Lh, W.listOf vh.toArray nh)] → IntsAre vh ns → IntsAre vt ms → ns.length ≤ 2 * i → ms.length ≤ 2 * i → (∀ x ∈ ns, 0 ≤ x ∧ x < 8) → (∀ x ∈ ms, 0 ≤ x ∧ x < 8) → P) → P) rfl ?iter (.inr ⟨_, .head _, OList.of _ _⟩) F7 N8 ?J0 ?turn ?done (fun _ => rfl) ?passes
    case J0 =>
      refine fun _ k => k none none [] [] 0 0 [] [] ?_ rfl .nil .nil (Nat.le_refl _) (Nat.le_refl _) (fun x hx => nomatch hx) (fun x hx => nomatch hx)
      funext z
      by_cases q1 : z = ("copies" : Str)
      · rw [q1]; rfl
      by_cases q2 : z = ("number" : Str)
      · rw [q2]; rfl
      rw [if_neg q1, if_neg q2]
    case passes => exact PassesOwn.never
    case iter => intro Q' E' hq; exact wpAny_Name (wpAny_loadName_local rfl rfl F7.ns rfl hq) rfl
    case turn =>
      rintro I oI i v m₁ nl h tk hv hJ hnI F₃ N₃
      refine opq_for fun σ K0 hK0 => ?_
      refine hJ _ fun u1 u2 vh vt nh nt ns ms hm₁ hnl₁ hvh hvt hnl hml hn8 hm8 => ?_
      clear hJ
      subst hm₁ hnl₁
      have hi12 : i < ys.length := by have := (Array.getElem?_eq_some_iff.mp hv).1; simpa using this
      obtain ⟨k, tkk, rfl⟩ := hys v (List.mem_of_getElem? (by simpa using hv))
      simp only [List.append_nil, List.cons_append, List.nil_append] at N₃ hnI
      have hLtI : @Ne Nat Lt I := hnI (Lt, W.listOf vt.toArray nt) (by (first | walk_at "MEM" | simp))
      have hLhI : @Ne Nat Lh I := hnI (Lh, W.listOf vh.toArray nh) (by (first | walk_at "MEM" | simp))
      clear N8 F7
      have hr8 := fm8 k
      have hc2 := fm2 k
      k_steps
      rename Fr _ _ _ _ => F4
      rename News _ _ _ _ => N4
      unfold Halt
      have hxz := ar_xz hc2
      have hx0 := ar_x0 hc2
      clear hc2
      refine' KM.mul F4 N4 (vs := [.int ((k.fdiv 3).fmod 8) _]) (ns := [(k.fdiv 3).fmod 8]) (News.ol N4 (.head _) (OList.of _ _)) (.cons _ _ .nil) ?lo ?hi ?sz (fun Dc h5 F5 N5 l5 i5 _ _ hlc _ _ => ?_)
      case lo => exact ar_lo hx0
      case hi => exact ar_hi hx0
      case sz => exact ar_sz hxz
      have hcl : (List.replicate (1 + (k.fdiv 24).fmod 2).toNat [((k.fdiv 3).fmod 8)]).flatten.length ≤ 2 := by
        simp only [List.length_flatten, List.map_replicate, List.length_cons, List.length_nil, List.sum_replicate_nat]; exact ar_sz2 hxz
      have hc8 : ∀ x ∈ (List.replicate (1 + (k.fdiv 24).fmod 2).toNat [((k.fdiv 3).fmod 8)]).flatten, 0 ≤ x ∧ x < 8 := by
        intro x hx
        obtain ⟨y, hy, hxy⟩ := List.mem_flatten.mp hx
        rw [(List.mem_replicate.mp hy).2] at hxy
        rw [List.mem_singleton.mp hxy]; exact hr8
      have hDc : Dc ≠ Lt ∧ Dc ≠ Lh := ⟨Nat.ne_of_gt (l5 (Lt, W.listOf vt.toArray nt) (by (first | walk_at "MEM" | simp))), Nat.ne_of_gt (l5 (Lh, W.listOf vh.toArray nh) (by (first | walk_at "MEM" | simp)))⟩
      obtain ⟨cvs, cns, N6, i6, hc2, hc8'⟩ : ∃ cvs cns, News s1.heap s1.heap.objs.size h5 ((Dc, W.listOf (List.toArray cvs) 0) :: (_, _) :: (I, oI) :: (Lt, W.listOf vt.toArray nt) :: (Lh, W.listOf vh.toArray nh) :: [(D, W.listOf ys.toArray n6), (s1.heap.objs.size + 1 + 1, oc1), (s1.heap.objs.size + 1, oc2)]) ∧ IntsAre cvs cns ∧ cns.length ≤ 2 ∧ ∀ x ∈ cns, 0 ≤ x ∧ x < 8 := ⟨_, _, N5, i5, hcl, hc8⟩
      have N7 := News.sub (l' := (Dc, W.listOf (List.toArray cvs) 0) :: (I, oI) :: (Lt, W.listOf vt.toArray nt) :: (Lh, W.listOf vh.toArray nh) :: [(D, W.listOf ys.toArray n6), (s1.heap.objs.size + 1 + 1, oc1), (s1.heap.objs.size + 1, oc2)]) N6 (fun p hp => by
        rcases List.mem_cons.mp hp with rfl | hp
        · exact .head _
        · exact .tail _ (.tail _ hp))
      clear F4 N4 l5 N5 N6 i5 hcl hc8 hlc
      try dsimp only
      k_steps
      · rename Fr _ _ _ _ => Fa
        rename News _ _ _ _ => Na
        unfold Halt
        refine extend_led (pre := [(Dc, W.listOf cvs.toArray 0), (I, oI), (Lt, W.listOf vt.toArray nt)]) (post := [(D, W.listOf ys.toArray n6), (s1.heap.objs.size + 1 + 1, oc1), (s1.heap.objs.size + 1, oc2)]) Fa Na ?_ ?_ (Na.get (.head _)) ?_ fun h6 nh' Fb Nb => ?_
        · exact List.forall_mem_cons.mpr ⟨hDc.2, List.forall_mem_cons.mpr ⟨Ne.symm hLhI, List.forall_mem_cons.mpr ⟨Nat.ne_of_gt hLhLt, List.forall_mem_nil _⟩⟩⟩
        · exact List.forall_mem_cons.mpr ⟨Nat.ne_of_lt hLhD, List.forall_mem_cons.mpr ⟨Nat.ne_of_lt hLhC.1, List.forall_mem_cons.mpr ⟨Nat.ne_of_lt hLhC.2, List.forall_mem_nil _⟩⟩⟩
        · simp only [List.size_toArray]; exact ar_ext hvh.length hnl hi12 hlen6 i6.length hc2
        have hvh' : IntsAre (vh ++ cvs) (ns ++ cns) := hvh.append i6
        rw [List.append_toArray] at Nb
        clear Fa Na
        try dsimp only
        k_steps
        · rename Fr _ _ _ _ => Fc
          rename News _ _ _ _ => Nc
          unfold Halt
          simp only [List.cons_append, List.nil_append] at Nc
          refine extend_led (pre := [(Dc, W.listOf cvs.toArray 0), (I, oI)]) (post := [(Lh, W.listOf (vh ++ cvs).toArray nh'), (D, W.listOf ys.toArray n6), (s1.heap.objs.size + 1 + 1, oc1), (s1.heap.objs.size + 1, oc2)]) Fc Nc ?_ ?_ (Nc.get (.head _)) ?_ fun h7 nt' Fd Nd => ?_
          · exact List.forall_mem_cons.mpr ⟨hDc.1, List.forall_mem_cons.mpr ⟨Ne.symm hLtI, List.forall_mem_nil _⟩⟩
          · exact List.forall_mem_cons.mpr ⟨Nat.ne_of_lt hLhLt, List.forall_mem_cons.mpr ⟨Nat.ne_of_lt hLtD, List.forall_mem_cons.mpr ⟨Nat.ne_of_lt hLtC.1, List.forall_mem_cons.mpr ⟨Nat.ne_of_lt hLtC.2, List.forall_mem_nil _⟩⟩⟩⟩
          · simp only [List.size_toArray]; exact ar_ext hvt.length hml hi12 hlen6 i6.length hc2
          have hvt' : IntsAre (vt ++ cvs) (ms ++ cns) := hvt.append i6
          rw [List.append_toArray] at Nd
          clear Fc Nc
          try dsimp only
          k_steps
          rename Fr _ _ _ _ => Fe
          rename News _ _ _ _ => Ne
          simp only [List.cons_append, List.nil_append] at Ne
          refine hK0 _ _ _ ?_
          refine ⟨_, _, _, [(Lt, W.listOf (vt ++ cvs).toArray nt'), (Lh, W.listOf (vh ++ cvs).toArray nh')], rfl, Fe, News.sub Ne (by walk_at "SUB"), List.forall_mem_cons.mpr ⟨hLtI, List.forall_mem_cons.mpr ⟨hLhI, List.forall_mem_nil _⟩⟩, fun _ kk => kk (some (.ref Dc)) (some (.int k tkk)) _ _ _ _ (ns ++ cns) (ms ++ cns) ?_ rfl hvh' hvt' (by first | exact len2 hnl hc2 | exact len2' hnl) (by first | exact len2 hml hc2 | exact len2' hml) (by first | exact hn8 | exact List.forall_mem_append.mpr ⟨hn8, hc8'⟩) (by first | exact hm8 | exact List.forall_mem_append.mpr ⟨hm8, hc8'⟩)⟩
          · funext z
            by_cases q1 : z = ("copies" : Str)
            · rw [q1]; rfl
            by_cases q2 : z = ("number" : Str)
            · rw [q2]; rfl
            simp only [q1, q2, if_false]
        · rename Fr _ _ _ _ => Fe
          rename News _ _ _ _ => Ne
          simp only [List.cons_append, List.nil_append] at Ne
          refine hK0 _ _ _ ?_
          refine ⟨_, _, _, [(Lt, W.listOf vt.toArray nt), (Lh, W.listOf (vh ++ cvs).toArray nh')], rfl, Fe, News.sub Ne (by walk_at "SUB"), List.forall_mem_cons.mpr ⟨hLtI, List.forall_mem_cons.mpr ⟨hLhI, List.forall_mem_nil _⟩⟩, fun _ kk => kk (some (.ref Dc)) (some (.int k tkk)) _ _ _ _ (ns ++ cns) (ms) ?_ rfl hvh' hvt (by first | exact len2 hnl hc2 | exact len2' hnl) (by first | exact len2 hml hc2 | exact len2' hml) (by first | exact hn8 | exact List.forall_mem_append.mpr ⟨hn8, hc8'⟩) (by first | exact hm8 | exact List.forall_mem_append.mpr ⟨hm8, hc8'⟩)⟩
          · funext z
            by_cases q1 : z = ("copies" : Str)
            · rw [q1]; rfl
            by_cases q2 : z = ("number" : Str)
            · rw [q2]; rfl
            simp only [q1, q2, if_false]
      · rename Fr _ _ _ _ => Fc
        rename News _ _ _ _ => Nc
        unfold Halt
        refine extend_led (pre := [(Dc, W.listOf cvs.toArray 0), (I, oI)]) (post := [(Lh, W.listOf vh.toArray nh), (D, W.listOf ys.toArray n6), (s1.heap.objs.size + 1 + 1, oc1), (s1.heap.objs.size + 1, oc2)]) Fc Nc ?_ ?_ (Nc.get (.head _)) ?_ fun h7 nt' Fd Nd => ?_
        · exact List.forall_mem_cons.mpr ⟨hDc.1, List.forall_mem_cons.mpr ⟨Ne.symm hLtI, List.forall_mem_nil _⟩⟩
        · exact List.forall_mem_cons.mpr ⟨Nat.ne_of_lt hLhLt, List.forall_mem_cons.mpr ⟨Nat.ne_of_lt hLtD, List.forall_mem_cons.mpr ⟨Nat.ne_of_lt hLtC.1, List.forall_mem_cons.mpr ⟨Nat.ne_of_lt hLtC.2, List.forall_mem_nil _⟩⟩⟩⟩
        · simp only [List.size_toArray]; exact ar_ext hvt.length hml hi12 hlen6 i6.length hc2
        have hvt' : IntsAre (vt ++ cvs) (ms ++ cns) := hvt.append i6
        rw [List.append_toArray] at Nd
        clear Fc Nc
        try dsimp only
        k_steps
        rename Fr _ _ _ _ => Fe
        rename News _ _ _ _ => Ne
        simp only [List.cons_append, List.nil_append] at Ne
        refine hK0 _ _ _ ?_
        refine ⟨_, _, _, [(Lt, W.listOf (vt ++ cvs).toArray nt'), (Lh, W.listOf vh.toArray nh)], rfl, Fe, News.sub Ne (by walk_at "SUB"), List.forall_mem_cons.mpr ⟨hLtI, List.forall_mem_cons.mpr ⟨hLhI, List.forall_mem_nil _⟩⟩, fun _ kk => kk (some (.ref Dc)) (some (.int k tkk)) _ _ _ _ (ns) (ms ++ cns) ?_ rfl hvh hvt' (by first | exact len2 hnl hc2 | exact len2' hnl) (by first | exact len2 hml hc2 | exact len2' hml) (by first | exact hn8 | exact List.forall_mem_append.mpr ⟨hn8, hc8'⟩) (by first | exact hm8 | exact List.forall_mem_append.mpr ⟨hm8, hc8'⟩)⟩
        · funext z
          by_cases q1 : z = ("copies" : Str)
          · rw [q1]; rfl
          by_cases q2 : z = ("number" : Str)
          · rw [q2]; rfl
          simp only [q1, q2, if_false]
      · exfalso; omega
    case done =>
      rintro m₁ nl h tk hJ F₃ N₃
      refine hJ _ fun u1 u2 vh vt nh nt ns ms hm₁ hnl₁ hvh hvt hnl hml hn8 hm8 => ?_
      clear hJ
      subst hm₁ hnl₁
      simp only [List.append_nil, List.cons_append, List.nil_append, List.size_toArray] at N₃ hnl hml
      have hn24 : ns.length ≤ 24 := ar_24 hnl hlen6
      have hm24 : ms.length ≤ 24 := ar_24 hml hlen6
      clear N8 F7
      k_steps
      unfold Halt
      refine told_spec F₃ X0 N₃ T0 (News.ol N₃ (.tail _ (.head _)) (OList.of _ _)) hvh hn24 (News.ol N₃ (.head _) (OList.of _ _)) hvt hm24 (fun x hx => (hn8 x hx).1) (fun x hx => (hm8 x hx).1) (fun Tu xa ya vx vy na nb nc h8 tk8 F8 N8 hx8 hy8 => ?_)
      clear F₃ N₃
      obtain ⟨q1, q2, hq⟩ : ∃ q1 q2, sld ns ms = (q1, q2) := ⟨_, _, rfl⟩
      have hq1 : ∀ r ∈ q1, 0 ≤ r ∧ r < 8 := fun r hr => hn8 r (sld_mem1 (ys := ms) (by rw [hq]; exact hr))
      have hq2 : ∀ r ∈ q2, 0 ≤ r ∧ r < 8 := fun r hr => hm8 r (sld_mem2 (xs := ns) (by rw [hq]; exact hr))
      have hl1 : q1.length ≤ 24 := by have := (sld_len ns ms).1; rw [hq] at this; dsimp only at this; omega
      have hl2 : q2.length ≤ 24 := by have := (sld_len ns ms).2; rw [hq] at this; dsimp only at this; omega
      rw [hq] at hx8 hy8
      try dsimp only
      k_steps
      rename Fr _ _ _ _ => F9
      rename News _ _ _ _ => N9
      unfold Halt
      refine wpAny_For ?_ (fun _ => rfl)
      k_steps
      unfold Halt
      refine kinds_spec F9 X0 N9 T0 (fun K fa fss kobjs nK h10 tk10 F10 N10 hfa hfss hK hfresh hkin => ?_)
      try dsimp only
      k_steps
      unfold Halt
      simp only [List.cons_append, List.nil_append] at N10 N9
      have hcF : ∀ p ∈ kobjs ++ [(Tu, ({ cls := .type "tuple", data := .seq #[.ref xa, .ref ya] nc } : Obj)), (xa, W.listOf vx.toArray na), (ya, W.listOf vy.toArray nb), (Lt, W.listOf vt.toArray nt), (Lh, W.listOf vh.toArray nh)], @Ne Nat p.1 (s1.heap.objs.size + 1 + 1) := by
        intro p hp
        rcases List.mem_append.mp hp with hp | hp
        · intro e
          have h1 := hfresh p hp
          have h2 := (N9 (s1.heap.objs.size + 1 + 1, oc1) (by (first | walk_at "MEM" | simp))).1
          have e' : p.1 = s1.heap.objs.size + 1 + 1 := e
          rw [e'] at h1
          dsimp only at h1 h2
          rw [h1] at h2; cases h2
        · refine News.ne (o := p.2) (o' := oc1) N10 (List.mem_append_right _ ?_) (List.mem_append_right _ (by (first | walk_at "MEM" | simp))) fun e => ?_
          · simp only [List.mem_cons, List.not_mem_nil, or_false] at hp ⊢
            rcases hp with rfl | rfl | rfl | rfl | rfl <;> simp
          · have hd := congrArg Obj.data e
            rw [hd1] at hd
            simp only [List.mem_cons, List.not_mem_nil, or_false] at hp
            rcases hp with rfl | rfl | rfl | rfl | rfl <;> cases hd
      clear F9 N9
      refine enum_loop (K := K) (items := fa.map Value.ref) (n := nK) (news := [(s1.heap.objs.size + 1 + 1, oc1)]) (fz := kobjs ++ [(Tu, ({ cls := .type "tuple", data := .seq #[.ref xa, .ref ya] nc } : Obj)), (xa, W.listOf vx.toArray na), (ya, W.listOf vy.toArray nb), (Lt, W.listOf vt.toArray nt), (Lh, W.listOf vh.toArray nh)])
        (fun i m nl => m "here" = some (.ref Lh) ∧ m "there" = some (.ref Lt) ∧ m "told" = some (.ref Tu) ∧ ∃ oc v, nl = [(s1.heap.objs.size + 1 + 1, oc)] ∧ oc.data = .cell v) rfl (List.mem_append_left _ hK) F10 (News.sub N10 ?subs) ?J1 ?turn1 ?done1 PassesOwn.never
      case subs =>
        walk_at "SUB"
      case J1 => exact ⟨rfl, rfl, rfl, _, _, rfl, hd1⟩
      case turn1 =>
        rintro I oI U oU T i t x m₁ nl h tk hx hJ hnI hIU F11 N11 hT hTne hTL hTb
        refine opq_for2 fun σ K0 hK0 => ?_
        obtain ⟨hm1, hm2, hm3, oc, cv, rfl, hoc⟩ := hJ
        clear F10 N10
        rw [List.getElem?_map] at hx
        have F11 := fr_eq F11 (ov_self hm3)
        have F11 := fr_eq F11 (ov_self (x := "there") (u := some (.ref Lt)) (by rw [if_neg (by decide)]; exact hm2))
        have F11 := fr_eq F11 (ov_self (x := "here") (u := some (.ref Lh)) (by rw [if_neg (by decide), if_neg (by decide)]; exact hm1))
        obtain ⟨f, hf, rfl⟩ := Option.map_eq_some_iff.mp hx
        have hi6 : i < 6 := by have := (List.getElem?_eq_some_iff.mp hf).1; omega
        obtain ⟨fs, hfs⟩ : ∃ fs, fss[i]? = some fs := ⟨_, List.getElem?_eq_getElem (by omega)⟩
        rw [PyProof.Rows.assign_Tuple]
        refine wpAny_bind (wpAny_standAt ?_)
        unfold unpack
        rw [show (assignEach [_, _] _).length = (#[Value.int (i : Int) t, Value.ref f] : Array Value).size from rfl, show (assignEach [_, _] _).findIdx? (·.1) = none from rfl]
        refine wpAny_bind (wpAny_holding ?_)
        refine wpAny_unpackItems_tuple rfl hT fun h12 he12 => ?_
        have up12 : ∀ b o, h.get? b = some o → h12.get? b = some o := fun b o e => he12 b o (Nat.ne_of_lt (Heap.lt_size e)) e
        have F12 := F11.keeps up12
        have N12 := N11.grown up12
        clear F11 N11 hT he12 up12
        show wpAny _ _ (assignInOrder [assign (.Name "kind" _) _, assign (.Name "faces" _) _] [.int (i : Int) t, .ref f]) _ _ _
        unfold assignInOrder
        refine wpAny_bind (wpAny_holding (wpAny_assign_Name (stLocN F12 N12 fun h13 F13 N13 => ?_)))
        clear F12 N12
        unfold assignInOrder
        have hcI := hnI (s1.heap.objs.size + 1 + 1, oc) (by (first | walk_at "MEM" | simp))
        refine wpAny_bind (wpAny_holding (wpAny_assign_Name (store_cell (pre := [(I, oI), (U, oU)]) (post := kobjs ++ [(Tu, ({ cls := .type "tuple", data := .seq #[.ref xa, .ref ya] nc } : Obj)), (xa, W.listOf vx.toArray na), (ya, W.listOf vy.toArray nb), (Lt, W.listOf vt.toArray nt), (Lh, W.listOf vh.toArray nh)]) F13 N13 ?_ hcF hoc rfl rfl rfl fun h14 oc' F14 N14 hoc' => ?_)))
        · exact List.forall_mem_cons.mpr ⟨Ne.symm hcI.1, List.forall_mem_cons.mpr ⟨Ne.symm hcI.2, List.forall_mem_nil _⟩⟩
        clear F13 N13
        unfold assignInOrder
        refine wpAny_pure ?_
        try dsimp only
        have kAt : ∀ {hh : Heap} {L' : Addr} {nl}, News s1.heap L' hh nl → (∀ p ∈ kobjs, p ∈ nl) → hh.get? f = some (tupO fs 0) ∧ FacesAt w i hh fs := fun {hh L' nl} N k => hkin hh (fun p hp => (N p (k p hp)).1) i f fs hf hfs
        have hfsK := faces_at (kAt N14 (fun p hp => by (first | walk_at "MEM" | simp [hp]))).2
        have hfs8 := hfsK.1
        obtain ⟨R0, N14, mI, mU, mC, mK, mTu, mx, my, mLt, mLh⟩ : ∃ R0, News s1.heap s1.heap.objs.size h14 R0 ∧ (I, oI) ∈ R0 ∧ (U, oU) ∈ R0 ∧ (s1.heap.objs.size + 1 + 1, oc') ∈ R0 ∧ (∀ p ∈ kobjs, p ∈ R0) ∧ (Tu, ({ cls := .type "tuple", data := .seq #[.ref xa, .ref ya] nc } : Obj)) ∈ R0 ∧ (xa, W.listOf vx.toArray na) ∈ R0 ∧ (ya, W.listOf vy.toArray nb) ∈ R0 ∧ (Lt, W.listOf vt.toArray nt) ∈ R0 ∧ (Lh, W.listOf vh.toArray nh) ∈ R0 :=
          ⟨_, N14, by (first | walk_at "MEM" | simp), by (first | walk_at "MEM" | simp), by (first | walk_at "MEM" | simp), fun p hp => by (first | walk_at "MEM" | simp [hp]), by (first | walk_at "MEM" | simp), by (first | walk_at "MEM" | simp), by (first | walk_at "MEM" | simp), by (first | walk_at "MEM" | simp), by (first | walk_at "MEM" | simp)⟩
        have toFace : ∀ {rs : List Int} {ws : List Value}, Paired (fun r v => ∃ j : Nat, r = (j : Int) ∧ j < 8 ∧ fs[j]? = some v) rs ws → Paired (IsFaceK i fs) rs ws := fun h => h.mono fun r v ⟨j, e, _, hv⟩ => e ▸ hfsK.2 j v hv
        k_steps
        refine ListComp_ints (G := fun r v => ∃ j : Nat, r = (j : Int) ∧ j < 8 ∧ fs[j]? = some v) F14 rfl (by with_unfolding_all rfl) (by decide) rfl (by decide) rfl ?_ (fun _ => rfl)
        k_steps
        unfold Halt
        refine ⟨_, vh, ns, _, rfl, News.ol N14 mLh (OList.of _ nh), hvh, le1000 hn24, F14, N14, fun C kk tt s₃ m₃ E' hkm F3 hm N3 => ?_, fun DD1 h15 tk15 ys1 nn1 FX NX hne1 hp1 => ?_⟩
        · have F3' := fr_eq F3 (ov_self hm)
          have hk8 := hn8 kk hkm
          have hff := (kAt N3 (fun p hp => (fun p hp => hp) p (mK p hp))).1
          have mC3 := (fun p hp => hp) _ mC
          clear F3 F14 N14
          k_steps
          exact item_face hff hfs8 hk8 (fun j fv e hj hv => ⟨⟨j, e, hj, hv⟩, _, _, rfl, fun _ _ e => e⟩) (by with_unfolding_all rfl) (by intro _; with_unfolding_all rfl)
        have F15 : Fr s1.heap s1.heap.objs.size h15 _ := FX
        have N15 : News s1.heap s1.heap.objs.size h15 _ := NX
        clear FX NX F14 N14
        try dsimp only
        k_steps
        unfold Halt
        refine given_all (k := i) (fs := fs) F15 X0 N15 T0 hi6 (.head _) (toFace hp1) hn24 fun v1 ex1 Ok1 h16 tk16 F16 N16 GO1 hok1 => ?_
        obtain ⟨Z1, NZ1, sub1, hok1⟩ : ∃ Z1, News s1.heap s1.heap.objs.size h16 Z1 ∧ (∀ p ∈ R0, p ∈ Z1) ∧ (∀ h : Heap, (∀ p ∈ Z1, h.get? p.1 = some p.2) → Ok1 h) := ⟨_, N16, fun p hp => by (first | walk_at "MEM" | simp [hp]), hok1⟩
        clear F15 N15 N16
        try dsimp only
        k_steps
        rename Fr _ _ _ _ => F17
        rename News _ _ _ _ => N17
        refine ListComp_ints (G := fun r v => ∃ j : Nat, r = (j : Int) ∧ j < 8 ∧ fs[j]? = some v) F17 rfl (by with_unfolding_all rfl) (by decide) rfl (by decide) rfl ?_ (fun _ => rfl)
        k_steps
        unfold Halt
        refine ⟨_, vt, ms, _, rfl, News.ol N17 (sub1 _ mLt) (OList.of _ nt), hvt, le1000 hm24, F17, N17, fun C kk tt s₃ m₃ E' hkm F3 hm N3 => ?_, fun DD2 h15 tk15 ys2 nn2 FX NX hne2 hp2 => ?_⟩
        · have F3' := fr_eq F3 (ov_self hm)
          have hk8 := hm8 kk hkm
          have hff := (kAt N3 (fun p hp => sub1 p (mK p hp))).1
          have mC3 := sub1 _ mC
          clear F3 F17 N17
          k_steps
          exact item_face hff hfs8 hk8 (fun j fv e hj hv => ⟨⟨j, e, hj, hv⟩, _, _, rfl, fun _ _ e => e⟩) (by with_unfolding_all rfl) (by intro _; with_unfolding_all rfl)
        have F18 : Fr s1.heap s1.heap.objs.size h15 _ := FX
        have N18 : News s1.heap s1.heap.objs.size h15 _ := NX
        clear FX NX F17 N17
        try dsimp only
        k_steps
        unfold Halt
        refine given_all (k := i) (fs := fs) F18 X0 N18 T0 hi6 (.head _) (toFace hp2) hm24 fun v2 ex2 Ok2 h19 tk19 F19 N19 GO2 hok2 => ?_
        obtain ⟨Z2, NZ2, sub2, hok1, hok2⟩ : ∃ Z2, News s1.heap s1.heap.objs.size h19 Z2 ∧ (∀ p ∈ R0, p ∈ Z2) ∧ (∀ h : Heap, (∀ p ∈ Z2, h.get? p.1 = some p.2) → Ok1 h) ∧ (∀ h : Heap, (∀ p ∈ Z2, h.get? p.1 = some p.2) → Ok2 h) := ⟨_, N19, fun p hp => by (first | (have h99 := sub1 p hp; walk_at "MEM") | simp [sub1 p hp]), fun h hk => hok1 h fun p hp => hk p (by (first | walk_at "MEM" | simp [hp])), hok2⟩
        clear F18 N18 N19
        try dsimp only
        k_steps
        rename Fr _ _ _ _ => F20
        rename News _ _ _ _ => N20
        refine ListComp_ints (G := fun r v => ∃ j : Nat, r = (j : Int) ∧ j < 8 ∧ fs[j]? = some v) F20 rfl (by with_unfolding_all rfl) (by decide) rfl (by decide) rfl ?_ (fun _ => rfl)
        k_steps
        refine item_tuple (items := #[.ref xa, .ref ya]) (j := 0) ⟨_, (N20 _ (sub2 _ mTu)).1, rfl, nc, rfl⟩ (by decide) (by decide) rfl rfl ?_ (by with_unfolding_all rfl) (by intro _; with_unfolding_all rfl)
        unfold Halt
        refine ⟨_, vx, q1, _, rfl, News.ol N20 (sub2 _ mx) (OList.of _ na), hx8, le1000 hl1, F20, N20, fun C kk tt s₃ m₃ E' hkm F3 hm N3 => ?_, fun DD3 h15 tk15 ys3 nn3 FX NX hne3 hp3 => ?_⟩
        · have F3' := fr_eq F3 (ov_self hm)
          have hk8 := hq1 kk hkm
          have hff := (kAt N3 (fun p hp => sub2 p (mK p hp))).1
          have mC3 := sub2 _ mC
          clear F3 F20 N20
          k_steps
          exact item_face hff hfs8 hk8 (fun j fv e hj hv => ⟨⟨j, e, hj, hv⟩, _, _, rfl, fun _ _ e => e⟩) (by with_unfolding_all rfl) (by intro _; with_unfolding_all rfl)
        have F21 : Fr s1.heap s1.heap.objs.size h15 _ := FX
        have N21 : News s1.heap s1.heap.objs.size h15 _ := NX
        have sub3 : ∀ p ∈ R0, p ∈ (DD3, W.listOf ys3.toArray nn3) :: Z2 := fun p hp => .tail _ (sub2 p hp)
        clear FX NX F20 N20
        try dsimp only
        k_steps
        refine ListComp_ints (G := fun r v => ∃ j : Nat, r = (j : Int) ∧ j < 8 ∧ fs[j]? = some v) F21 rfl (by with_unfolding_all rfl) (by decide) rfl (by decide) rfl ?_ (fun _ => rfl)
        k_steps
        refine item_tuple (items := #[.ref xa, .ref ya]) (j := 1) ⟨_, (N21 _ (sub3 _ mTu)).1, rfl, nc, rfl⟩ (by decide) (by decide) rfl rfl ?_ (by with_unfolding_all rfl) (by intro _; with_unfolding_all rfl)
        unfold Halt
        refine ⟨_, vy, q2, _, rfl, News.ol N21 (sub3 _ my) (OList.of _ nb), hy8, le1000 hl2, F21, N21, fun C kk tt s₃ m₃ E' hkm F3 hm N3 => ?_, fun DD4 h15 tk15 ys4 nn4 FX NX hne4 hp4 => ?_⟩
        · have F3' := fr_eq F3 (ov_self hm)
          have hk8 := hq2 kk hkm
          have hff := (kAt N3 (fun p hp => sub3 p (mK p hp))).1
          have mC3 := sub3 _ mC
          clear F3 F21 N21
          k_steps
          exact item_face hff hfs8 hk8 (fun j fv e hj hv => ⟨⟨j, e, hj, hv⟩, _, _, rfl, fun _ _ e => e⟩) (by with_unfolding_all rfl) (by intro _; with_unfolding_all rfl)
        have F22 : Fr s1.heap s1.heap.objs.size h15 _ := FX
        have N22 : News s1.heap s1.heap.objs.size h15 _ := NX
        clear FX NX F21 N21
        try dsimp only
        k_steps
        rename Fr _ _ _ _ => F23
        rename News _ _ _ _ => N23
        obtain ⟨Z3, NZ3, sub3', z23, m3, m4⟩ : ∃ Z3, News s1.heap s1.heap.objs.size _ Z3 ∧ (∀ p ∈ R0, p ∈ Z3) ∧ (∀ p ∈ Z2, p ∈ Z3) ∧ (DD3, W.listOf ys3.toArray nn3) ∈ Z3 ∧ (DD4, W.listOf ys4.toArray nn4) ∈ Z3 := ⟨_, N23, fun p hp => by (first | (have h99 := sub2 p hp; walk_at "MEM") | simp [sub2 p hp]), fun p hp => by (first | walk_at "MEM" | simp [hp]), by (first | walk_at "MEM" | simp), by (first | walk_at "MEM" | simp)⟩
        clear N23 sub3
        refine GO1.copy _ _ { σ with heap := _, toks := _ } _ _ _ _ (hok1 _ fun p hp => (NZ3 p (z23 p hp)).1) (fun h24 tk24 v1' xc1 k24 hxc1 eq1 => ?_)
        have F24 := F23.keeps k24
        have N24 := news_extra F23 NZ3 k24 hxc1
        clear F23 NZ3 k24 hxc1
        try dsimp only
        k_steps
        refine GO2.copy _ _ { σ with heap := _, toks := _ } _ _ _ _ (hok2 _ fun p hp => (N24 p (List.mem_append_right _ (z23 p hp))).1) (fun h25 tk25 v2' xc2 k25 hxc2 eq2 => ?_)
        have F25 := F24.keeps k25
        have N25 := news_extra F24 N24 k25 hxc2
        clear F24 N24 k25 hxc2
        try dsimp only
        k_steps
        rename Fr _ _ _ _ => F26
        rename News _ _ _ _ => N26
        obtain ⟨Kp, hKp, N26⟩ := head_name N26
        subst hKp
        obtain ⟨Z4, NZ4, sub4, z34, mKp, x14, x24⟩ : ∃ Z4, News s1.heap s1.heap.objs.size _ Z4 ∧ (∀ p ∈ R0, p ∈ Z4) ∧ (∀ p ∈ Z3, p ∈ Z4) ∧ (Kp, ({ cls := .type "tuple", data := .seq #[v1', v2'] } : Obj)) ∈ Z4 ∧ (∀ p ∈ xc1, p ∈ Z4) ∧ (∀ p ∈ xc2, p ∈ Z4) :=
          ⟨_, N26, fun p hp => by (first | (have h99 := sub3' p hp; walk_at "MEM") | simp [sub3' p hp]), fun p hp => by (first | walk_at "MEM" | simp [hp]), by (first | walk_at "MEM" | simp), fun p hp => by (first | walk_at "MEM" | simp [hp]), fun p hp => by (first | walk_at "MEM" | simp [hp])⟩
        clear N26
        have okZ : ∀ h' : Heap, (∀ p ∈ Z4, h'.get? p.1 = some p.2) → FacesAt w i h' fs ∧ Ok1 h' ∧ Ok2 h' := fun h' hk => ⟨(hkin h' (fun p hp => hk p (sub4 p (mK p hp))) i f fs hf hfs).2, hok1 h' fun p hp => hk p (z34 p (z23 p hp)), hok2 h' fun p hp => hk p (z34 p (z23 p hp))⟩
        have FO : FaceOps w (fun h => FacesAt w i h fs ∧ Ok1 h ∧ Ok2 h) (IsFaceK i fs) := face_ops.weaken fun h x => x.1
        have okN : ∀ {hh : Heap} {nl}, News s1.heap s1.heap.objs.size hh nl → (∀ p ∈ Z4, p ∈ nl) → FacesAt w i hh fs ∧ Ok1 hh ∧ Ok2 hh := fun {hh nl} N k => okZ hh fun p hp => (N p (k p hp)).1
        unfold Halt
        refine sld_spec (Ok := fun h => FacesAt w i h fs ∧ Ok1 h ∧ Ok2 h) (IsFace := IsFaceK i fs) F26 X0 NZ4 T0 rfl (fun h => nomatch (show ScopeKind.function = ScopeKind.module from h)) (fun h' _ hk => okZ h' hk) FO (sld_ok GO1.seq fun h x => x.2.1) (sld_ok GO2.seq fun h x => x.2.2) hn24 hm24 (fun Ta Ma Ua vma vua nma nua n3a h27 tk27 F27 N27 pa1 pa2 => ?_)
        rw [hq] at pa1 pa2
        dsimp only at pa1 pa2
        clear F26 NZ4
        try dsimp only
        k_steps
        rename Fr _ _ _ _ => F28
        rename News _ _ _ _ => N28
        unfold Halt
        refine ne_tuples (N28 (Ta, ({ cls := .type "tuple", data := .seq #[.ref Ma, .ref Ua] n3a } : Obj)) (by (first | walk_at "MEM" | simp))).1 (N28 _ (.head _)).1 (Nat.le_of_ble_eq_true rfl)
          (eqat_faces FO (okN N28 fun p hp => by (first | walk_at "MEM" | simp [hp])) (N28 (Ma, W.listOf vma.toArray nma) (by (first | walk_at "MEM" | simp))).1 (N28 (DD3, W.listOf ys3.toArray nn3) (by (first | (have h99 := z34 _ m3; walk_at "MEM") | simp [z34 _ m3]))).1 pa1 (toFace hp3) (Nat.le_of_ble_eq_true rfl))
          (eqat_faces FO (okN N28 fun p hp => by (first | walk_at "MEM" | simp [hp])) (N28 (Ua, W.listOf vua.toArray nua) (by (first | walk_at "MEM" | simp))).1 (N28 (DD4, W.listOf ys4.toArray nn4) (by (first | (have h99 := z34 _ m4; walk_at "MEM") | simp [z34 _ m4]))).1 pa2 (toFace hp4) (Nat.le_of_ble_eq_true rfl)) ?_
        try dsimp only
        k_steps
        rename Fr _ _ _ _ => F29
        rename News _ _ _ _ => N29
        have NZ5 := News.sub (l' := Z4) N29 (fun p hp => by (first | walk_at "MEM" | simp [hp]))
        clear N29
        unfold Halt
        refine sld_spec (Ok := fun h => FacesAt w i h fs ∧ Ok1 h ∧ Ok2 h) (IsFace := IsFaceK i fs) F29 X0 NZ5 T0 rfl (fun h => nomatch (show ScopeKind.function = ScopeKind.module from h)) (fun h' _ hk => okZ h' hk) FO (sld_ok GO2.seq fun h x => x.2.2) (sld_ok GO1.seq fun h x => x.2.1) hm24 hn24 (fun Tb Mb Ub vmb vub nmb nub n3b h30 tk30 F30 N30 pb1 pb2 => ?_)
        rw [sld_symm _ ns ms rfl, hq] at pb1 pb2
        dsimp only at pb1 pb2
        clear F29 NZ5
        try dsimp only
        k_steps
        rename Fr _ _ _ _ => F31
        rename News _ _ _ _ => N31
        unfold Halt
        refine ne_tuples (N31 (Tb, ({ cls := .type "tuple", data := .seq #[.ref Mb, .ref Ub] n3b } : Obj)) (by (first | walk_at "MEM" | simp))).1 (N31 _ (.head _)).1 (Nat.le_of_ble_eq_true rfl)
          (eqat_faces FO (okN N31 fun p hp => by (first | walk_at "MEM" | simp [hp])) (N31 (Mb, W.listOf vmb.toArray nmb) (by (first | walk_at "MEM" | simp))).1 (N31 (DD4, W.listOf ys4.toArray nn4) (by (first | (have h99 := z34 _ m4; walk_at "MEM") | simp [z34 _ m4]))).1 pb1 (toFace hp4) (Nat.le_of_ble_eq_true rfl))
          (eqat_faces FO (okN N31 fun p hp => by (first | walk_at "MEM" | simp [hp])) (N31 (Ub, W.listOf vub.toArray nub) (by (first | walk_at "MEM" | simp))).1 (N31 (DD3, W.listOf ys3.toArray nn3) (by (first | (have h99 := z34 _ m3; walk_at "MEM") | simp [z34 _ m3]))).1 pb2 (toFace hp3) (Nat.le_of_ble_eq_true rfl)) ?_
        try dsimp only
        k_steps
        rename Fr _ _ _ _ => F32
        rename News _ _ _ _ => N32
        unfold Halt
        refine ne_tuples (N32 _ (.head _)).1 (N32 (Kp, ({ cls := .type "tuple", data := .seq #[v1', v2'] } : Obj)) (by (first | walk_at "MEM" | simp [mKp]))).1 (Nat.le_of_ble_eq_true rfl)
          (eq1 _ _ (Nat.le_of_ble_eq_true rfl) (okN N32 fun p hp => by (first | walk_at "MEM" | simp [hp])).2.1 fun p hp => (N32 p (by (first | (have h99 := x14 p hp; walk_at "MEM") | simp [x14 p hp]))).1)
          (eq2 _ _ (Nat.le_of_ble_eq_true rfl) (okN N32 fun p hp => by (first | walk_at "MEM" | simp [hp])).2.2 fun p hp => (N32 p (by (first | (have h99 := x24 p hp; walk_at "MEM") | simp [x24 p hp]))).1) ?_
        try dsimp only
        k_steps
        rename Fr _ _ _ _ => F33
        rename News _ _ _ _ => N33
        have NZ6 := News.sub (l' := Z4) N33 (fun p hp => by (first | walk_at "MEM" | simp [hp]))
        clear N33
        unfold Halt
        refine For_pair3 s1.heap rfl rfl rfl rfl ?_ (fun _ => rfl) PassesOwn.never
        k_steps
        unfold Halt
        have hLhi : Heap.IsList _ Lh vh.toArray := News.ol NZ6 (sub4 _ mLh) (OList.of _ nh)
        have hLti : Heap.IsList _ Lt vt.toArray := News.ol NZ6 (sub4 _ mLt) (OList.of _ nt)
        refine call_zip_2 hLhi hLti fun h34 hz hTI hTO hit1 hit2 hsz k34 => ?_
        have F34 := F33.keeps k34
        have N34 := NZ6.grown k34
        have a0 := F33.ns.lt
        have aL := Heap.lt_size (NZ6 _ (sub4 _ mLh)).1
        have aT := Heap.lt_size (NZ6 _ (sub4 _ mLt)).1
        have aZ : ∀ p ∈ Z4, @LT.lt Nat _ p.1 _ := fun p hp => Heap.lt_size (NZ6 p hp).1
        have hL1 := (NZ6 _ (sub4 _ mLh)).2.1
        have hL2 := (NZ6 _ (sub4 _ mLt)).2.1
        have hab := F33.above
        have hLhi' := hLhi.at fun o e => k34 _ o e
        have hLti' := hLti.at fun o e => k34 _ o e
        clear F33 NZ6 k34 hLhi hLti
        refine WalksT.self (WalksT.zip2 ?hh1 _ _ _ _ _ Lh Lt (zipApart_new aL aT) vh.toArray vt.toArray) 0 _ _ _ ⟨hz, hTI, ⟨_, _, hTO⟩, hit1, hit2, hLhi', hLti'⟩ ?_
        case hh1 => rfl
        refine ⟨_, _, _, _, _, _, _, fun j a b => vh[j]? = some a ∧ vt[j]? = some b, _, Z4, fun j m nl => nl = Z4 ∧ m "here" = some (.ref Lh) ∧ m "there" = some (.ref Lt) ∧ m "told" = some (.ref Tu), rfl, WalksT.zip2 ?hh2 _ _ _ _ _ Lh Lt (zipApart_new aL aT) vh.toArray vt.toArray, ?zh2, ?zL, ?zwr, ?znw, ⟨hz, hTI, ⟨_, _, hTO⟩, hit1, hit2, hLhi', hLti'⟩, F34, N34, ⟨rfl, rfl, rfl, rfl⟩, ?zstep, ?zfin⟩
        case hh2 => rfl
        case zh2 =>
          rintro j vals ⟨a, b, ha, hb, e⟩
          exact ⟨a, b, e, by simpa using ha, by simpa using hb⟩
        case zL =>
          intro hm
          simp only [List.mem_cons, List.not_mem_nil, or_false] at hm
          rcases hm with e | e | e | e | e | e | e
          · exact absurd e (Nat.ne_of_lt (Nat.lt_trans a0 (Nat.lt_add_of_pos_right (by decide))))
          · exact absurd e (Nat.ne_of_lt (Nat.lt_trans a0 (Nat.lt_add_of_pos_right (by decide))))
          · exact absurd e (Nat.ne_of_lt (Nat.lt_trans a0 (Nat.lt_add_of_pos_right (by decide))))
          · exact absurd e (Nat.ne_of_lt a0)
          · exact absurd e (Nat.ne_of_lt (Nat.lt_trans a0 (Nat.lt_add_of_pos_right (by decide))))
          · exact hL1 e.symm
          · exact hL2 e.symm
        case zwr =>
          intro b hb
          refine Heap.get?_none_of_le ?_
          have hle := Nat.le_of_lt a0
          simp only [List.mem_cons, List.not_mem_nil, or_false] at hb
          rcases hb with e | e | e | e <;> rw [e]
          · exact Nat.le_trans hab (Nat.le_trans hle (Nat.le_add_right _ _))
          · exact Nat.le_trans hab (Nat.le_trans hle (Nat.le_add_right _ _))
          · exact Nat.le_trans hab hle
          · exact Nat.le_trans hab (Nat.le_trans hle (Nat.le_add_right _ _))
        case znw =>
          intro p hp hm
          have := aZ p hp
          simp only [List.mem_cons, List.not_mem_nil, or_false] at hm
          rcases hm with e | e | e | e
          · exact absurd e (Nat.ne_of_lt (Nat.lt_trans this (Nat.lt_add_of_pos_right (by decide))))
          · exact absurd e (Nat.ne_of_lt (Nat.lt_trans this (Nat.lt_add_of_pos_right (by decide))))
          · exact absurd e (Nat.ne_of_lt this)
          · exact absurd e (Nat.ne_of_lt (Nat.lt_trans this (Nat.lt_add_of_pos_right (by decide))))
        case zfin =>
          rintro h' tk' m' nl' F40 N40 hmap ⟨rfl, j1, j2, j3⟩
          k_steps
          refine hK0 _ _ _ ?_
          refine ⟨_, _, m', [(s1.heap.objs.size + 1 + 1, oc')], rfl, F40, News.sub N40 (fun p hp => ?_), fun p hp => ?_, j1, j2, j3, oc', _, rfl, hoc'⟩
          · refine sub4 p ?_
            simp only [List.cons_append, List.nil_append, List.mem_cons, List.mem_append, List.not_mem_nil, or_false] at hp
            rcases hp with rfl | rfl | rfl | hp | rfl | rfl | rfl | rfl | rfl
            · exact mI
            · exact mU
            · exact mC
            · exact mK p hp
            · exact mTu
            · exact mx
            · exact my
            · exact mLt
            · exact mLh
          · rw [List.mem_singleton.mp hp]; exact hcI
        case zstep =>
          rintro j v0 v1 m₂ nl₂ s₂ own ⟨h35, tk35, rfl⟩ hjlt ⟨hv0, hv1⟩ ⟨rfl, j1, j2, j3⟩ hmap hown F35 N35
          clear hz hTI hTO hit1 hit2 hLhi' hLti' F34 N34 aL aT aZ hsz
          refine opqQ fun K1 hK1 => ?_
          have mC35 := List.mem_append_right own (sub4 _ mC)
          obtain ⟨ra, hra⟩ : ∃ ra, ns[j]? = some ra := ⟨_, List.getElem?_eq_getElem (ar_get hvh.length hv0)⟩
          obtain ⟨rb, hrb⟩ : ∃ rb, ms[j]? = some rb := ⟨_, List.getElem?_eq_getElem (ar_get hvt.length hv1)⟩
          obtain ⟨t0, ht0⟩ := hvh.get j ra hra
          obtain ⟨t1, ht1⟩ := hvt.get j rb hrb
          rw [hv0] at ht0
          rw [hv1] at ht1
          cases ht0
          cases ht1
          have hra8 := hn8 ra (List.mem_of_getElem? hra)
          have hrb8 := hm8 rb (List.mem_of_getElem? hrb)
          try dsimp only
          k_steps
          have kf := (kAt N35 (fun p hp => List.mem_append_right own (sub4 _ (mK p hp)))).1
          refine item_face kf hfs8 hra8 (fun ja fva ea hja hfva => ?_) (by with_unfolding_all rfl) (by intro _; with_unfolding_all rfl)
          subst ea
          try dsimp only
          k_steps
          refine item_face kf hfs8 hrb8 (fun jb fvb eb hjb hfvb => ?_) (by with_unfolding_all rfl) (by intro _; with_unfolding_all rfl)
          subst eb
          try dsimp only
          k_steps
          unfold Halt
          refine cmp_spec (Ok := fun h => FacesAt w i h fs ∧ Ok1 h ∧ Ok2 h) (IsFace := IsFaceK i fs) (r := (ja : Int)) (q := (jb : Int)) F35 X0 N35 T0 FO (fun h' hk => okN (N35.grown hk) fun p hp => List.mem_append_right own hp) (hfsK.2 ja fva hfva) (hfsK.2 jb fvb hfvb) (fun t' h36 tk36 F36 N36 => ?_)
          clear F35 N35 kf
          try dsimp only
          k_steps
          all_goals first | (rename (_ ≠ _) => hne9; exact absurd (sign_ok _ _) hne9) | (refine hK1 _ _ ?_; k_steps)
      case done1 =>
        rintro m₁ nl h tk ⟨hm1, hm2, hm3, oc, cv, rfl, hoc⟩ F11 N11
        clear F10 N10
        try dsimp only
        k_steps
        exact ⟨rfl, _, _, _, rfl, F11⟩
  · split <;> omega
  · split <;> omega)
end
end
end Mine
set_option maxRecDepth 100000 in
set_option maxHeartbeats 8000000 in
theorem PySem.Challenge.cw_sr0099_01_holds : PySem.Challenge.rw_sr0099_01.Holds := by
  exact Mine.law_try
