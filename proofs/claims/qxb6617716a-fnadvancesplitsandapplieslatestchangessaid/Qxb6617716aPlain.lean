namespace Go.Proofs.Qxb6617716a.Plain

/-- How many of the first m changes are at or before t. -/
def cnt (at' : Nat → Int) (t : Int) : Nat → Nat
  | 0 => 0
  | i + 1 => if at' i ≤ t then cnt at' t i + 1 else cnt at' t i

/-- max(applied, the number of changes at or before t). -/
def reach (at' : Nat → Int) (m a : Nat) (t : Int) : Nat := if cnt at' t m < a then a else cnt at' t m

theorem cnt_le (at' : Nat → Int) (t : Int) (m : Nat) : cnt at' t m ≤ m := by
  induction m with
  | zero => exact Nat.le_refl _
  | succ m ih => simp only [cnt]; split <;> omega

theorem reach_le {at' : Nat → Int} {m a : Nat} (t : Int) (ha : a ≤ m) : a ≤ reach at' m a t ∧ reach at' m a t ≤ m := by
  have := cnt_le at' t m
  unfold reach
  split <;> omega

theorem cnt_all {at' : Nat → Int} {t : Int} : ∀ m, (∀ i, i < m → at' i ≤ t) → cnt at' t m = m
  | 0, _ => rfl
  | m + 1, h => by
    simp only [cnt]
    rw [if_pos (h m (by omega)), cnt_all m fun i hi => h i (by omega)]

theorem cnt_stop {at' : Nat → Int} {t : Int} {k : Nat} : ∀ m, k ≤ m → (∀ i, k ≤ i → i < m → t < at' i) → cnt at' t m = cnt at' t k
  | 0, hk, _ => by obtain rfl : k = 0 := by omega
                   rfl
  | m + 1, hk, h => by
    by_cases e : k = m + 1
    · rw [e]
    · simp only [cnt]
      have := h m (by omega) (by omega)
      rw [if_neg (by omega)]
      exact cnt_stop m (by omega) fun i h1 h2 => h i h1 (by omega)

/-- By time. -/
def Sorted (at' : Nat → Int) (m : Nat) : Prop := ∀ i, i + 1 < m → at' i ≤ at' (i + 1)

theorem Sorted.le {at' : Nat → Int} {m : Nat} (h : Sorted at' m) {i j : Nat} (hij : i ≤ j) (hj : j < m) : at' i ≤ at' j := by
  induction j with
  | zero => obtain rfl : i = 0 := by omega
            exact Int.le_refl _
  | succ j ih =>
    by_cases e : i = j + 1
    · rw [e]; exact Int.le_refl _
    · exact Int.le_trans (ih (by omega) (by omega)) (h j hj)

/-- Where a walk from a that goes on while 'at' is at most t comes to a stop. -/
structure Stops (at' : Nat → Int) (m a : Nat) (t : Int) (k : Nat) : Prop where
  lo : a ≤ k
  hi : k ≤ m
  go : ∀ j, a ≤ j → j < k → at' j ≤ t
  stop : k = m ∨ t < at' k

theorem Stops.reach {at' : Nat → Int} {m a : Nat} {t : Int} {k : Nat} (h : Stops at' m a t k) (hs : Sorted at' m) : k = reach at' m a t := by
  have hlo := h.lo
  have hhi := h.hi
  have hc : cnt at' t m = cnt at' t k := by
    rcases h.stop with e | e
    · rw [e]
    · exact cnt_stop m hhi fun i h1 h2 => Int.lt_of_lt_of_le e (hs.le h1 h2)
  have hck := cnt_le at' t k
  unfold Plain.reach
  by_cases e : k = a
  · subst e
    split <;> omega
  · have hall : cnt at' t k = k := cnt_all k fun i hi => by
      have h1 := h.go (k - 1) (by omega) (by omega)
      exact Int.le_trans (hs.le (i := i) (j := k - 1) (by omega) (by omega)) h1
    rw [hc, hall, if_neg (by omega)]

theorem cnt_mono {at' : Nat → Int} {s t : Int} (h : s ≤ t) (m : Nat) : cnt at' s m ≤ cnt at' t m := by
  induction m with
  | zero => exact Nat.le_refl _
  | succ m ih =>
    simp only [cnt]
    split
    · rw [if_pos (by omega)]; omega
    · split <;> omega

theorem reach_two (at' : Nat → Int) (m a : Nat) (t1 t2 tm : Int) (h : (tm = t1 ∧ t2 ≤ t1) ∨ (tm = t2 ∧ t1 < t2)) : reach at' m (reach at' m a t1) t2 = reach at' m a tm := by
  unfold reach
  rcases h with ⟨rfl, h⟩ | ⟨rfl, h⟩
  · have := cnt_mono (at' := at') h m
    split <;> split <;> omega
  · have := cnt_mono (at' := at') (Int.le_of_lt h) m
    repeat' split
    all_goals omega

section
variable {β : Type}

/-- The state behind d changes from number a on: change j sets user 'us j' to 'v j', where 'on j'. -/
def app (us : Nat → Int) (on : Nat → Bool) (v V : Nat → β) (a : Nat) : Nat → Nat → β
  | 0 => V
  | d + 1 => fun x => if (x : Int) = us (a + d) ∧ on (a + d) = true then v (a + d) else app us on v V a d x

theorem app_app (us : Nat → Int) (on : Nat → Bool) (v V : Nat → β) (a d : Nat) : ∀ e, app us on v (app us on v V a d) (a + d) e = app us on v V a (d + e)
  | 0 => rfl
  | e + 1 => by
    funext x
    show (if (x : Int) = us (a + d + e) ∧ on (a + d + e) = true then v (a + d + e) else app us on v (app us on v V a d) (a + d) e x) = (if (x : Int) = us (a + (d + e)) ∧ on (a + (d + e)) = true then v (a + (d + e)) else app us on v V a (d + e) x)
    rw [app_app us on v V a d e, Nat.add_assoc]

theorem app_on {us : Nat → Int} {on : Nat → Bool} {v V : Nat → β} {a d u : Nat} (hu : us (a + d) = (u : Int)) (ho : on (a + d) = true) : (fun x => if x = u then v (a + d) else app us on v V a d x) = app us on v V a (d + 1) := by
  funext x
  show _ = (if _ ∧ _ then _ else _)
  rw [hu, ho]
  by_cases e : x = u
  · rw [if_pos e, if_pos ⟨by omega, rfl⟩]
  · rw [if_neg e, if_neg (fun h => e (by omega))]

theorem app_off {us : Nat → Int} {on : Nat → Bool} {v V : Nat → β} {a d : Nat} (ho : on (a + d) = false) : app us on v V a d = app us on v V a (d + 1) := by
  funext x
  show _ = (if _ ∧ _ then _ else _)
  rw [if_neg (by simp [ho])]

/-- The walk back: j changes are still to come; 'fin' is the end's state. -/
def Back (us : Nat → Int) (on : Nat → Bool) (v V : Nat → β) (a D j : Nat) (seen : Nat → Bool) (W : Nat → β) : Prop :=
  ∀ x, (seen x = true → W x = app us on v V a D x) ∧ (seen x = false → W x = V x ∧ app us on v V a D x = app us on v V a j x)

theorem Back.start (us : Nat → Int) (on : Nat → Bool) (v V : Nat → β) (a D : Nat) : Back us on v V a D D (fun _ => false) V :=
  fun _ => ⟨fun h => (Bool.noConfusion h), fun _ => ⟨rfl, rfl⟩⟩

theorem Back.done {us : Nat → Int} {on : Nat → Bool} {v V : Nat → β} {a D : Nat} {seen : Nat → Bool} {W : Nat → β} (h : Back us on v V a D 0 seen W) (x : Nat) : W x = app us on v V a D x := by
  cases e : seen x with
  | true => exact (h x).1 e
  | false => rw [((h x).2 e).1, ((h x).2 e).2]; rfl

theorem Back.off {us : Nat → Int} {on : Nat → Bool} {v V : Nat → β} {a D j : Nat} {seen : Nat → Bool} {W : Nat → β} (h : Back us on v V a D (j + 1) seen W) (ho : on (a + j) = false) : Back us on v V a D j seen W := by
  refine fun x => ⟨(h x).1, fun e => ⟨((h x).2 e).1, ((h x).2 e).2.trans ?_⟩⟩
  show (if _ ∧ _ then _ else _) = _
  rw [if_neg (by simp [ho])]

theorem Back.again {us : Nat → Int} {on : Nat → Bool} {v V : Nat → β} {a D j u : Nat} {seen : Nat → Bool} {W : Nat → β} (h : Back us on v V a D (j + 1) seen W) (hu : us (a + j) = (u : Int)) (hs : seen u = true) : Back us on v V a D j seen W := by
  refine fun x => ⟨(h x).1, fun e => ⟨((h x).2 e).1, ((h x).2 e).2.trans ?_⟩⟩
  show (if _ ∧ _ then _ else _) = _
  rw [if_neg]
  rintro ⟨h1, _⟩
  rw [hu] at h1
  obtain rfl : x = u := by omega
  rw [hs] at e; cases e

theorem Back.hit {us : Nat → Int} {on : Nat → Bool} {v V : Nat → β} {a D j u : Nat} {seen : Nat → Bool} {W : Nat → β} (h : Back us on v V a D (j + 1) seen W) (hu : us (a + j) = (u : Int)) (hs : seen u = false) (ho : on (a + j) = true) :
    Back us on v V a D j (fun x => if x = u then true else seen x) (fun x => if x = u then v (a + j) else W x) := by
  intro x
  by_cases e : x = u
  · subst e
    refine ⟨fun _ => ?_, fun h' => by simp at h'⟩
    rw [((h x).2 hs).2]
    show (if _ then _ else _) = (if _ ∧ _ then _ else _)
    rw [if_pos rfl, if_pos ⟨hu.symm, ho⟩]
  · simp only [if_neg e]
    refine ⟨(h x).1, fun e' => ⟨((h x).2 e').1, ((h x).2 e').2.trans ?_⟩⟩
    show (if _ ∧ _ then _ else _) = _
    rw [if_neg]
    rintro ⟨h1, _⟩
    rw [hu] at h1
    exact e (by omega)
end

end Go.Proofs.Qxb6617716a.Plain
