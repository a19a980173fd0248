namespace Go.Proofs.Qxb6618312a.Plain

/-! ### The dynamic program -/
section
variable {α : Type} [DecidableEq α]

/-- One row out of the row before it, as the Go text has it. -/
def nxt (prev : Nat → Nat) (a : Option α) (B : List α) : Nat → Nat
  | 0 => 0
  | j + 1 => if a = B[j]? then prev j + 1 else if nxt prev a B j ≤ prev (j + 1) then prev (j + 1) else nxt prev a B j

/-- Row i. -/
def lc (A B : List α) : Nat → Nat → Nat
  | 0 => fun _ => 0
  | i + 1 => nxt (lc A B i) A[i]? B

theorem lc_zero (A B : List α) (i : Nat) : lc A B i 0 = 0 := by
  cases i <;> rfl

/-- A row that starts at 0 and climbs by steps of at most 1. -/
def Mild (r : Nat → Nat) : Prop := r 0 = 0 ∧ ∀ j, r j ≤ r (j + 1) ∧ r (j + 1) ≤ r j + 1

theorem nxt_near {prev : Nat → Nat} (h : Mild prev) (a : Option α) (B : List α) (j : Nat) : prev j ≤ nxt prev a B j ∧ nxt prev a B j ≤ prev j + 1 := by
  induction j with
  | zero => simp [nxt, h.1]
  | succ j ih =>
    have := h.2 j
    simp only [nxt]
    split
    · omega
    · split <;> omega

theorem nxt_mild {prev : Nat → Nat} (h : Mild prev) (a : Option α) (B : List α) : Mild (nxt prev a B) := by
  refine ⟨rfl, fun j => ?_⟩
  have h1 := nxt_near h a B j
  have h2 := h.2 j
  have e : nxt prev a B (j + 1) = if a = B[j]? then prev j + 1 else if nxt prev a B j ≤ prev (j + 1) then prev (j + 1) else nxt prev a B j := rfl
  rw [e]
  split
  · omega
  · split <;> omega

theorem lc_mild (A B : List α) (i : Nat) : Mild (lc A B i) := by
  induction i with
  | zero => exact ⟨rfl, fun _ => by simp [lc]⟩
  | succ i ih => exact nxt_mild ih _ _

theorem lc_down (A B : List α) (i j : Nat) : lc A B i j ≤ lc A B (i + 1) j := (nxt_near (lc_mild A B i) _ _ j).1

theorem lc_mono_left (A B : List α) (j : Nat) {i i' : Nat} (h : i ≤ i') : lc A B i j ≤ lc A B i' j := by
  induction i' with
  | zero => obtain rfl : i = 0 := by omega
            exact Nat.le_refl _
  | succ i' ih =>
    by_cases e : i = i' + 1
    · subst e; exact Nat.le_refl _
    · exact Nat.le_trans (ih (by omega)) (lc_down A B i' j)

theorem lc_mono_right (A B : List α) (i : Nat) {j j' : Nat} (h : j ≤ j') : lc A B i j ≤ lc A B i j' := by
  induction j' with
  | zero => obtain rfl : j = 0 := by omega
            exact Nat.le_refl _
  | succ j' ih =>
    by_cases e : j = j' + 1
    · subst e; exact Nat.le_refl _
    · exact Nat.le_trans (ih (by omega)) ((lc_mild A B i).2 j').1

theorem lc_hit (A B : List α) (i j : Nat) (h : A[i]? = B[j]?) : lc A B (i + 1) (j + 1) = lc A B i j + 1 := by
  show nxt _ _ _ (j + 1) = _
  simp [nxt, h]

/-- (i, j) ends a common subsequence of m + 1 elements. -/
def CEnds (A B : List α) : Nat → Nat → Nat → Prop
  | 0, i, j => A[i]? = B[j]?
  | m + 1, i, j => A[i]? = B[j]? ∧ ∃ i' j', i' < i ∧ j' < j ∧ CEnds A B m i' j'

theorem cends_le (A B : List α) (m : Nat) : ∀ i j, CEnds A B m i j → m + 1 ≤ lc A B (i + 1) (j + 1) := by
  induction m with
  | zero => intro i j h; rw [lc_hit A B i j h]; omega
  | succ m ih =>
    rintro i j ⟨h, i', j', hi, hj, hc⟩
    have h1 := ih i' j' hc
    rw [lc_hit A B i j h]
    have h2 := lc_mono_left A B (j' + 1) (show i' + 1 ≤ i by omega)
    have h3 := lc_mono_right A B i (show j' + 1 ≤ j by omega)
    omega

theorem cends_lc (A B : List α) {m i j I J : Nat} (h : CEnds A B m i j) (hi : i < I) (hj : j < J) : m + 1 ≤ lc A B I J := by
  have h1 := cends_le A B m i j h
  have h2 := lc_mono_left A B (j + 1) (show i + 1 ≤ I by omega)
  have h3 := lc_mono_right A B I (show j + 1 ≤ J by omega)
  omega

theorem lc_cends (A B : List α) : ∀ I J m, lc A B I J = m + 1 → ∃ i j, i < I ∧ j < J ∧ CEnds A B m i j := by
  intro I
  induction I with
  | zero => intro J m h; simp [lc] at h
  | succ I ihI =>
    intro J
    induction J with
    | zero => intro m h; rw [lc_zero] at h; omega
    | succ J ihJ =>
      intro m h
      have e : lc A B (I + 1) (J + 1) = if A[I]? = B[J]? then lc A B I J + 1 else if lc A B (I + 1) J ≤ lc A B I (J + 1) then lc A B I (J + 1) else lc A B (I + 1) J := rfl
      rw [e] at h
      by_cases hq : A[I]? = B[J]?
      · rw [if_pos hq] at h
        have hm : lc A B I J = m := by omega
        cases m with
        | zero => exact ⟨I, J, by omega, by omega, hq⟩
        | succ m =>
          obtain ⟨i, j, hi, hj, hc⟩ := ihI J m hm
          exact ⟨I, J, by omega, by omega, hq, i, j, hi, hj, hc⟩
      · rw [if_neg hq] at h
        split at h
        · obtain ⟨i, j, hi, hj, hc⟩ := ihI (J + 1) m h
          exact ⟨i, j, by omega, hj, hc⟩
        · obtain ⟨i, j, hi, hj, hc⟩ := ihJ m h
          exact ⟨i, j, hi, by omega, hc⟩
end

/-! ### The longest rising subsequence -/

/-- x ends a rising chain of m + 1 elements. -/
def Ends (L : Nat → Int) : Nat → Nat → Prop
  | 0, _ => True
  | m + 1, x => ∃ y, y < x ∧ L y < L x ∧ Ends L m y

/-- WHAT HOLDS AFTER k ELEMENTS: 'es': the ends; 'bf': the links; 'lev': how long the chain is that each element was put on. -/
structure LInv (L : Nat → Int) (k : Nat) (es : List Nat) (bf : Nat → Int) (lev : Nat → Nat) : Prop where
  len : es.length ≤ k
  lt : ∀ (i x : Nat), es[i]? = some x → x < k ∧ lev x = i
  link : ∀ x, x < k → (lev x = 0 ∧ bf x = -1) ∨ ∃ y : Nat, bf x = (y : Int) ∧ y < x ∧ L y < L x ∧ lev y + 1 = lev x
  rise : ∀ (i j x y : Nat), i < j → es[i]? = some x → es[j]? = some y → L x < L y
  best : ∀ m x, x < k → Ends L m x → ∃ y, es[m]? = some y ∧ L y ≤ L x

theorem LInv.start (L : Nat → Int) (bf : Nat → Int) (lev : Nat → Nat) : LInv L 0 [] bf lev :=
  ⟨Nat.le_refl _, by simp, fun x hx => by omega, by simp, fun m x hx => by omega⟩

/-- The ends behind a round: the new element at place n. -/
def put (es : List Nat) (n k : Nat) : List Nat := if n = es.length then es ++ [k] else es.set n k

theorem put_get (es : List Nat) (n k i : Nat) (hn : n ≤ es.length) : (put es n k)[i]? = if i = n then some k else es[i]? := by
  unfold put
  by_cases h : n = es.length
  · rw [if_pos h]
    subst h
    by_cases hi : i = es.length
    · subst hi; simp
    · rw [if_neg hi]
      by_cases h2 : i < es.length
      · rw [List.getElem?_append_left h2]
      · rw [List.getElem?_eq_none (by simp; omega), List.getElem?_eq_none (by omega)]
  · rw [if_neg h, List.getElem?_set]
    by_cases hi : i = n
    · subst hi
      rw [if_pos rfl, if_pos rfl, if_pos (by omega)]
    · rw [if_neg (fun e => hi e.symm), if_neg hi]

theorem put_length (es : List Nat) (n k : Nat) : (put es n k).length = if n = es.length then es.length + 1 else es.length := by
  unfold put
  split <;> simp

/-- THE STEP. 'hlo', 'hhi': what the binary search says. 'b': the new link. -/
theorem LInv.step {L : Nat → Int} {k : Nat} {es : List Nat} {bf : Nat → Int} {lev : Nat → Nat} (h : LInv L k es bf lev) {n : Nat} (hn : n ≤ es.length) (hlo : ∀ (i x : Nat), i < n → es[i]? = some x → L x < L k) (hhi : ∀ (i x : Nat), n ≤ i → es[i]? = some x → L k ≤ L x)
    {b : Int} (hb : (n = 0 ∧ b = -1) ∨ ∃ y : Nat, 0 < n ∧ es[n - 1]? = some y ∧ b = (y : Int)) :
    LInv L (k + 1) (put es n k) (fun x => if x = k then b else bf x) (fun x => if x = k then n else lev x) where
  len := by rw [put_length es n k]; have := h.len; split <;> omega
  lt := by
    intro i x hx
    rw [put_get es n k i hn] at hx
    by_cases e : i = n
    · subst e
      rw [if_pos rfl] at hx
      obtain rfl := Option.some.inj hx
      exact ⟨by omega, by simp⟩
    · rw [if_neg e] at hx
      have := h.lt i x hx
      refine ⟨by omega, ?_⟩
      show (if x = k then n else lev x) = i
      rw [if_neg (by omega)]
      exact this.2
  link := by
    intro x hx
    show ((if x = k then n else lev x) = 0 ∧ (if x = k then b else bf x) = -1) ∨ ∃ y : Nat, (if x = k then b else bf x) = (y : Int) ∧ y < x ∧ L y < L x ∧ (if y = k then n else lev y) + 1 = (if x = k then n else lev x)
    by_cases e : x = k
    · subst e
      simp only [↓reduceIte]
      rcases hb with ⟨h0, hb⟩ | ⟨y, h0, hy, hb⟩
      · exact .inl ⟨h0, hb⟩
      · right
        have h1 := h.lt _ _ hy
        refine ⟨y, hb, h1.1, hlo (n - 1) y (by omega) hy, ?_⟩
        rw [if_neg (by omega), h1.2]
        omega
    · simp only [if_neg e]
      rcases h.link x (by omega) with h1 | ⟨y, h1, h2, h3, h4⟩
      · exact .inl h1
      · exact .inr ⟨y, h1, h2, h3, by rw [if_neg (by omega)]; exact h4⟩
  rise := by
    intro i j x y hij hx hy
    rw [put_get es n k _ hn] at hx hy
    by_cases e1 : i = n
    · subst e1
      rw [if_pos rfl] at hx
      obtain rfl := Option.some.inj hx
      rw [if_neg (by omega)] at hy
      cases hz : es[i]? with
      | none =>
        rw [List.getElem?_eq_none_iff] at hz
        rw [List.getElem?_eq_none (by omega)] at hy
        cases hy
      | some z =>
        have h1 := hhi i z (Nat.le_refl _) hz
        have h2 := h.rise i j z y hij hz hy
        omega
    · rw [if_neg e1] at hx
      by_cases e2 : j = n
      · subst e2
        rw [if_pos rfl] at hy
        obtain rfl := Option.some.inj hy
        exact hlo i x hij hx
      · rw [if_neg e2] at hy
        exact h.rise i j x y hij hx hy
  best := by
    intro m x hx hc
    rw [put_get es n k m hn]
    by_cases e : x = k
    · subst e
      cases m with
      | zero =>
        by_cases h0 : n = 0
        · subst h0; exact ⟨x, by simp, Int.le_refl _⟩
        · rw [if_neg (by omega)]
          have hy : es[0]? = some es[0] := List.getElem?_eq_getElem (by omega)
          exact ⟨_, hy, by have := hlo 0 _ (by omega) hy; omega⟩
      | succ m =>
        obtain ⟨y, hy, hL, hc'⟩ := hc
        obtain ⟨z, hz, hzL⟩ := h.best m y hy hc'
        have hmn : m < n := by
          by_cases hmn : m < n
          · exact hmn
          · have := hhi m z (by omega) hz; omega
        by_cases h1 : m + 1 = n
        · rw [if_pos h1]; exact ⟨x, rfl, Int.le_refl _⟩
        · rw [if_neg h1]
          have hy : es[m + 1]? = some es[m + 1] := List.getElem?_eq_getElem (by omega)
          exact ⟨_, hy, by have := hlo (m + 1) _ (by omega) hy; omega⟩
    · obtain ⟨y, hy, hL⟩ := h.best m x (by omega) hc
      by_cases h1 : m = n
      · subst h1
        rw [if_pos rfl]
        exact ⟨k, rfl, by have := hhi m y (Nat.le_refl _) hy; omega⟩
      · rw [if_neg h1]
        exact ⟨y, hy, hL⟩

/-- The chain, from its end back. -/
def node (bf : Nat → Int) (x0 : Nat) : Nat → Nat
  | 0 => x0
  | s + 1 => (bf (node bf x0 s)).toNat

theorem LInv.node {L : Nat → Int} {k : Nat} {es : List Nat} {bf : Nat → Int} {lev : Nat → Nat} (h : LInv L k es bf lev) {t x0 : Nat} (hx : es[t]? = some x0) :
    ∀ s, s ≤ t → Plain.node bf x0 s < k ∧ lev (Plain.node bf x0 s) = t - s := by
  intro s
  induction s with
  | zero => intro _; exact h.lt t x0 hx
  | succ s ih =>
    intro hs
    obtain ⟨h1, h2⟩ := ih (by omega)
    rcases h.link _ h1 with ⟨h3, _⟩ | ⟨y, h3, h4, h5, h6⟩
    · omega
    · have e : Plain.node bf x0 (s + 1) = y := by show (bf (Plain.node bf x0 s)).toNat = y; rw [h3]; omega
      rw [e]
      omega

theorem LInv.node_link {L : Nat → Int} {k : Nat} {es : List Nat} {bf : Nat → Int} {lev : Nat → Nat} (h : LInv L k es bf lev) {t x0 : Nat} (hx : es[t]? = some x0) {s : Nat} (hs : s < t) :
    bf (Plain.node bf x0 s) = (Plain.node bf x0 (s + 1) : Int) ∧ Plain.node bf x0 (s + 1) < Plain.node bf x0 s ∧ L (Plain.node bf x0 (s + 1)) < L (Plain.node bf x0 s) := by
  obtain ⟨h1, h2⟩ := h.node hx s (by omega)
  rcases h.link _ h1 with ⟨h3, _⟩ | ⟨y, h3, h4, h5, h6⟩
  · omega
  · have e : Plain.node bf x0 (s + 1) = y := by show (bf (Plain.node bf x0 s)).toNat = y; rw [h3]; omega
    rw [e]
    exact ⟨h3, h4, h5⟩

/-- What the longest rising subsequence is: places f 0 < f 1 < .. < f (t - 1) below N. -/
structure LRes (L : Nat → Int) (N t : Nat) (f : Nat → Nat) : Prop where
  lt : ∀ i, i < t → f i < N
  rise : ∀ i, i + 1 < t → f i < f (i + 1) ∧ L (f i) < L (f (i + 1))
  best : ∀ m x, x < N → Ends L m x → m < t

theorem LInv.res {L : Nat → Int} {k : Nat} {es : List Nat} {bf : Nat → Int} {lev : Nat → Nat} (h : LInv L k es bf lev) {t x0 : Nat} (ht : es.length = t + 1) (hx : es[t]? = some x0) :
    LRes L k (t + 1) (fun i => Plain.node bf x0 (t - i)) where
  lt := fun i hi => (h.node hx (t - i) (by omega)).1
  rise := by
    intro i hi
    have := h.node_link hx (s := t - (i + 1)) (by omega)
    rw [show t - (i + 1) + 1 = t - i by omega] at this
    exact this.2
  best := by
    intro m x hx hc
    obtain ⟨y, hy, _⟩ := h.best m x hx hc
    have := (List.getElem?_eq_some_iff.1 hy).1
    omega

theorem LInv.res_nil {L : Nat → Int} {k : Nat} {bf : Nat → Int} {lev : Nat → Nat} (h : LInv L k [] bf lev) (f : Nat → Nat) : LRes L k 0 f where
  lt := fun i hi => by omega
  rise := fun i hi => by omega
  best := by
    intro m x hx hc
    obtain ⟨y, hy, _⟩ := h.best m x hx hc
    simp at hy

/-! ### The two together -/

/-- 'ms' lists just the pairs of places at which A and B hold the same, by their place in B. -/
structure Common {α : Type} (A B : List α) (ms : List (Int × Int)) : Prop where
  sound : ∀ (x : Nat) (p : Int × Int), ms[x]? = some p → ∃ i j : Nat, p = ((i : Int), (j : Int)) ∧ i < A.length ∧ j < B.length ∧ A[i]? = B[j]?
  rise : ∀ (x y : Nat) (p q : Int × Int), x < y → ms[x]? = some p → ms[y]? = some q → p.2 < q.2
  full : ∀ i j : Nat, i < A.length → j < B.length → A[i]? = B[j]? → ∃ x : Nat, ms[x]? = some ((i : Int), (j : Int))

/-- The live place of match x. -/
def live (ms : List (Int × Int)) (x : Nat) : Int := (ms.getD x (0, 0)).1

theorem live_eq {ms : List (Int × Int)} {x : Nat} {p : Int × Int} (h : ms[x]? = some p) : live ms x = p.1 := by simp [live, List.getD, h]

theorem ends_of_cends {α : Type} {A B : List α} {ms : List (Int × Int)} (h : Common A B ms) (m : Nat) : ∀ i j, i < A.length → j < B.length → CEnds A B m i j → ∃ x : Nat, ms[x]? = some ((i : Int), (j : Int)) ∧ Ends (live ms) m x := by
  induction m with
  | zero =>
    intro i j hi hj hc
    obtain ⟨x, hx⟩ := h.full i j hi hj hc
    exact ⟨x, hx, trivial⟩
  | succ m ih =>
    rintro i j hi hj ⟨he, i', j', h1, h2, hc⟩
    obtain ⟨y, hy, hey⟩ := ih i' j' (by omega) (by omega) hc
    obtain ⟨x, hx⟩ := h.full i j hi hj he
    refine ⟨x, hx, y, ?_, ?_, hey⟩
    · by_cases hyx : y < x
      · exact hyx
      · by_cases e : y = x
        · subst e
          rw [hx] at hy
          simp only [Option.some.injEq, Prod.mk.injEq] at hy
          omega
        · have := h.rise x y _ _ (by omega) hx hy
          simp only at this
          omega
    · rw [live_eq hx, live_eq hy]
      simp only
      omega

theorem cends_of_res {α : Type} {A B : List α} {ms : List (Int × Int)} (h : Common A B ms) {t : Nat} {f : Nat → Nat} (hr : LRes (live ms) ms.length t f) : ∀ m, m < t → ∃ i j : Nat, ms[f m]? = some ((i : Int), (j : Int)) ∧ i < A.length ∧ j < B.length ∧ CEnds A B m i j := by
  intro m
  induction m with
  | zero =>
    intro hm
    have hl := hr.lt 0 hm
    obtain ⟨i, j, hp, hi, hj, he⟩ := h.sound (f 0) _ (List.getElem?_eq_getElem hl)
    exact ⟨i, j, by rw [List.getElem?_eq_getElem hl, hp], hi, hj, he⟩
  | succ m ih =>
    intro hm
    obtain ⟨i', j', hy, hi', hj', hc⟩ := ih (by omega)
    have hl := hr.lt (m + 1) hm
    obtain ⟨i, j, hp, hi, hj, he⟩ := h.sound (f (m + 1)) _ (List.getElem?_eq_getElem hl)
    have hx : ms[f (m + 1)]? = some ((i : Int), (j : Int)) := by rw [List.getElem?_eq_getElem hl, hp]
    obtain ⟨r1, r2⟩ := hr.rise m hm
    rw [live_eq hx, live_eq hy] at r2
    have r3 := h.rise _ _ _ _ r1 hy hx
    simp only at r2 r3
    exact ⟨i, j, hx, hi, hj, he, i', j', by omega, by omega, hc⟩

theorem res_is_lc {α : Type} [DecidableEq α] {A B : List α} {ms : List (Int × Int)} (h : Common A B ms) {t : Nat} {f : Nat → Nat} (hr : LRes (live ms) ms.length t f) : t = lc A B A.length B.length := by
  apply Nat.le_antisymm
  · cases t with
    | zero => exact Nat.zero_le _
    | succ t =>
      obtain ⟨i, j, _, hi, hj, hc⟩ := cends_of_res h hr t (by omega)
      exact cends_lc A B hc hi hj
  · cases e : lc A B A.length B.length with
    | zero => exact Nat.zero_le _
    | succ m =>
      obtain ⟨i, j, hi, hj, hc⟩ := lc_cends A B _ _ m e
      obtain ⟨x, hx, hex⟩ := ends_of_cends h m i j hi hj hc
      exact hr.best m x (List.getElem?_eq_some_iff.1 hx).1 hex

end Go.Proofs.Qxb6618312a.Plain
