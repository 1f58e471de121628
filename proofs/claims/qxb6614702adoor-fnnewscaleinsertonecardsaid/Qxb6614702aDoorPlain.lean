/-
  SEAT b6614702aD: plain laws of ranks and of distinct grades (no Go in sight).
-/
namespace Go.Proofs.Qxb6614702aDoor

/-- THE RANK OF s ON THE SCALE OF A LIST: the number of places from its last occurrence to the end. -/
def rank : List ByteArray → ByteArray → Option Nat
  | [], _ => none
  | g :: r, s => match rank r s with
    | some x => some x
    | none => if g = s then some (r.length + 1) else none

/-- Is s in the list? -/
def isIn (l : List ByteArray) (s : ByteArray) : Bool := (rank l s).isSome

/-- HOW MANY GRADES OF A LIST ARE DISTINCT. -/
def dist : List ByteArray → Nat
  | [] => 0
  | g :: r => if isIn r g = true then dist r else dist r + 1

/-- HOW MANY DISTINCT GRADES OF a ARE NOT IN b. -/
def only (b : List ByteArray) : List ByteArray → Nat
  | [] => 0
  | g :: r => if isIn r g = true ∨ isIn b g = true then only b r else only b r + 1

theorem rank_some_iff (s : ByteArray) : ∀ l : List ByteArray, (rank l s).isSome = true ↔ s ∈ l
  | [] => by simp [rank]
  | g :: r => by
    have ih := rank_some_iff s r
    rw [rank]
    cases h : rank r s with
    | some x => rw [h] at ih; simp at ih; simp [ih]
    | none =>
      rw [h] at ih
      simp at ih
      by_cases hg : g = s
      · subst hg; simp
      · have : ¬ s = g := fun e => hg e.symm
        simp [hg, this, ih]

theorem rank_none_iff (s : ByteArray) (l : List ByteArray) : rank l s = none ↔ s ∉ l := by
  rw [← rank_some_iff s l]
  cases rank l s <;> simp

theorem rank_le (s : ByteArray) : ∀ (l : List ByteArray) (x : Nat), rank l s = some x → 1 ≤ x ∧ x ≤ l.length
  | [], x, h => by simp [rank] at h
  | g :: r, x, h => by
    rw [rank] at h
    cases hr : rank r s with
    | some y =>
      rw [hr] at h
      simp at h
      have := rank_le s r y hr
      simp; omega
    | none =>
      rw [hr] at h
      by_cases hg : g = s
      · simp [hg] at h; simp; omega
      · simp [hg] at h

theorem rank_append (s : ByteArray) (r : List ByteArray) : ∀ p : List ByteArray, rank (p ++ r) s = match rank r s with | some x => some x | none => (rank p s).map (· + r.length)
  | [] => by simp only [List.nil_append]; cases rank r s <;> simp [rank]
  | g :: p => by
    rw [List.cons_append, rank, rank_append s r p]
    cases hr : rank r s with
    | some x => rfl
    | none =>
      rw [rank]
      cases hp : rank p s with
      | some y => simp
      | none =>
        simp
        by_cases hg : g = s
        · simp [hg]; omega
        · simp [hg]

theorem rank_snoc (p : List ByteArray) (g s : ByteArray) : rank (p ++ [g]) s = if s = g then some 1 else (rank p s).map (· + 1) := by
  rw [rank_append]
  by_cases h : s = g
  · subst h; simp [rank]
  · have : ¬ g = s := fun e => h e.symm
    simp [rank, h, this]

theorem isIn_cons (g : ByteArray) (r : List ByteArray) (s : ByteArray) : isIn (g :: r) s = (isIn r s || decide (g = s)) := by
  unfold isIn
  rw [rank]
  cases rank r s with
  | some x => simp
  | none => by_cases h : g = s <;> simp [h]

theorem isIn_append (a b : List ByteArray) (s : ByteArray) : isIn (a ++ b) s = (isIn a s || isIn b s) := by
  unfold isIn
  rw [rank_append]
  cases rank b s <;> cases rank a s <;> simp

theorem isIn_nil (s : ByteArray) : isIn [] s = false := rfl
theorem isIn_true {l : List ByteArray} {s : ByteArray} : isIn l s = true ↔ s ∈ l := rank_some_iff s l
theorem isIn_false {l : List ByteArray} {s : ByteArray} : isIn l s = false ↔ s ∉ l := by
  rw [← isIn_true]; cases isIn l s <;> simp

theorem dist_snoc (g : ByteArray) : ∀ p : List ByteArray, dist (p ++ [g]) = if isIn p g = true then dist p else dist p + 1
  | [] => by simp [dist, isIn_nil]
  | h :: p => by
    rw [List.cons_append, dist, dist_snoc g p, dist, isIn_append, isIn_cons, isIn_cons, isIn_nil]
    by_cases h3 : h = g
    · subst h3
      cases isIn p h <;> simp
    · have h4 : ¬ g = h := fun e => h3 e.symm
      cases isIn p h <;> cases isIn p g <;> simp [h3, h4]

theorem dist_append (b : List ByteArray) : ∀ a : List ByteArray, dist (a ++ b) = dist b + only b a
  | [] => by simp [only]
  | g :: a => by
    rw [List.cons_append, dist, dist_append b a, only, isIn_append]
    cases isIn a g <;> cases isIn b g <;> simp <;> omega

theorem dist_le : ∀ l : List ByteArray, dist l ≤ l.length
  | [] => Nat.le_refl _
  | g :: r => by
    have := dist_le r
    rw [dist]
    split <;> simp <;> omega

theorem only_le (b : List ByteArray) : ∀ l : List ByteArray, only b l ≤ l.length
  | [] => Nat.le_refl _
  | g :: r => by
    have := only_le b r
    rw [only]
    split <;> simp <;> omega

/-- THE MAP BEHIND k GRADES OF NewScale. -/
def rankTo (l : List ByteArray) (k : Nat) (s : ByteArray) : Option Int := (rank (l.take k) s).map fun x => ((x + (l.length - k) : Nat) : Int)
/-- THE WHOLE SCALE. -/
def rankI (l : List ByteArray) (s : ByteArray) : Option Int := (rank l s).map fun x => (x : Int)

theorem rankTo_all (l : List ByteArray) : rankTo l l.length = rankI l := by
  funext s
  rw [rankTo, rankI, List.take_of_length_le (Nat.le_refl _)]
  cases rank l s <;> simp

theorem rankTo_zero (l : List ByteArray) : rankTo l 0 = fun _ => none := by
  funext s
  simp [rankTo, rank]

theorem rankTo_succ (l : List ByteArray) (k : Nat) (hk : k < l.length) : rankTo l (k + 1) = fun s => if s = l[k] then some ((l.length : Int) - k) else rankTo l k s := by
  funext s
  rw [rankTo, List.take_succ_eq_append_getElem hk, rank_snoc]
  by_cases h : s = l[k]
  · rw [if_pos h, if_pos h]
    simp
    omega
  · rw [if_neg h, if_neg h, rankTo]
    cases rank (l.take k) s with
    | none => rfl
    | some x =>
      simp
      omega

theorem rankTo_some (l : List ByteArray) (k : Nat) (s : ByteArray) : (rankTo l k s).isSome = true ↔ s ∈ l.take k := by
  rw [rankTo, ← rank_some_iff]
  cases rank (l.take k) s <;> simp

/-- A grade at place j that does not come again. -/
theorem rank_last (l : List ByteArray) (j : Nat) (hj : j < l.length) (hn : l[j] ∉ l.drop (j + 1)) : rank l l[j] = some (l.length - j) := by
  have e : l = l.take j ++ (l[j] :: l.drop (j + 1)) := by
    rw [← List.drop_eq_getElem_cons hj, List.take_append_drop]
  generalize hg : l[j] = g at *
  have hr := (rank_none_iff g (l.drop (j + 1))).2 hn
  have h1 : rank (g :: l.drop (j + 1)) g = some (l.length - j) := by
    rw [rank, hr]
    simp
    omega
  rw [e, rank_append, h1]
  simp
  omega

theorem rankI_last (l : List ByteArray) (j : Nat) (hj : j < l.length) (hn : l[j] ∉ l.drop (j + 1)) : rankI l l[j] = some ((l.length : Int) - j) := by
  rw [rankI, rank_last l j hj hn]
  simp
  omega

theorem rankI_append_right (a b : List ByteArray) (s : ByteArray) (h : s ∈ b) : rankI (a ++ b) s = rankI b s := by
  rw [rankI, rankI, rank_append]
  have := (rank_some_iff s b).2 h
  cases hr : rank b s with
  | some x => rfl
  | none => rw [hr] at this; simp at this

theorem rankI_append_left (a b : List ByteArray) (s : ByteArray) (h : s ∉ b) (v : Int) (hv : rankI a s = some v) : rankI (a ++ b) s = some (v + b.length) := by
  rw [rankI] at hv
  rw [rankI, rank_append, (rank_none_iff s b).2 h]
  cases hr : rank a s with
  | none => rw [hr] at hv; simp at hv
  | some x => rw [hr] at hv; simp at hv; subst hv; simp

theorem dist_drop (l : List ByteArray) (j : Nat) (hj : j < l.length) : dist (l.drop j) = if isIn (l.drop (j + 1)) l[j] = true then dist (l.drop (j + 1)) else dist (l.drop (j + 1)) + 1 := by
  rw [List.drop_eq_getElem_cons hj, dist]

theorem only_drop (b l : List ByteArray) (j : Nat) (hj : j < l.length) : only b (l.drop j) = if isIn (l.drop (j + 1)) l[j] = true ∨ isIn b l[j] = true then only b (l.drop (j + 1)) else only b (l.drop (j + 1)) + 1 := by
  rw [List.drop_eq_getElem_cons hj, only]

end Go.Proofs.Qxb6614702aDoor
