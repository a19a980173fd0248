import Derived.Test.Qxb6618312aLaw1
namespace Go.Proofs.Qxb6618312a
open Go.RowKit Go.Maps

theorem Try.info31 : (Try.prog.info? 31).map (fun i => (i.zero, i.size, i.bytes)) = some (some (.agg #[.string ⟨#[]⟩, .bool false, .string ⟨#[]⟩, .int .i64 0]), 4, 48) := by kernel_rfl

/-- 'make([]itemID, n)'. -/
theorem make31 (n : Nat) (hn : n ≤ 1099511627776) (w : World) :
    (Instr.makeSlice 27 (.int .i64 (n : Int)) (.int .i64 (n : Int))).run Try.prog w = .ok (.slice (some ⟨w.heap.size, 0, none⟩) n n) (w.alloc (.cells (madeCells #[.string ⟨#[]⟩, .bool false, .string ⟨#[]⟩, .int .i64 0] (n * 4)) 31)) := by
  obtain ⟨i, hi, hz, hs, hb⟩ := info_parts Try.info31
  have hr := run_make (P := Try.prog) w 27 31 i _ Try.underlying27 hi hz .i64 .i64 n n (by omega) (Int.le_refl _) (by rw [hb]; omega) (by omega)
  simp only [Int.toNat_natCast, hs] at hr
  exact hr

/-- Cell r of an identity. -/
def zcell (z : Zid) (r : Nat) : Value := if r = 0 then .string z.1 else if r = 1 then .bool z.2.1 else if r = 2 then .string z.2.2.1 else .int .i64 z.2.2.2

def zzero : Zid := (⟨#[]⟩, false, ⟨#[]⟩, 0)

/-- The cell at place c of the copied list, when the first k are copied. -/
def idcell (A : List Zid) (k c : Nat) : Value := zcell (if c / 4 < k then A.getD (c / 4) zzero else zzero) (c % 4)

theorem idcell_made (w : World) (A : List Zid) (n : Nat) : (w.alloc (.cells (madeCells #[.string ⟨#[]⟩, .bool false, .string ⟨#[]⟩, .int .i64 0] (n * 4)) 31)).rowIs w.heap.size 31 (n * 4) (idcell A 0) := by
  refine ⟨_, Go.heap_alloc_new w _, size_madeCells _ _, fun i hi => ?_⟩
  have h4 : i % 4 = 0 ∨ i % 4 = 1 ∨ i % 4 = 2 ∨ i % 4 = 3 := by omega
  rcases h4 with e | e | e | e <;> simp [madeCells, hi, idcell, e, zcell, zzero]

theorem idcell_step {w : World} {L n k : Nat} {A : List Zid} {z : Zid} (h : w.rowIs L 31 (n * 4) (idcell A k)) (hz : A[k]? = some z) :
    ((((w.setCell ⟨L, k * 4, none⟩ (.string z.1)).setCell ⟨L, k * 4 + 1, none⟩ (.bool z.2.1)).setCell ⟨L, k * 4 + 2, none⟩ (.string z.2.2.1)).setCell ⟨L, k * 4 + 3, none⟩ (.int .i64 z.2.2.2)).rowIs L 31 (n * 4) (idcell A (k + 1)) := by
  refine ((((h.set (k * 4) _).set (k * 4 + 1) _).set (k * 4 + 2) _).set (k * 4 + 3) _).congr fun c hc => ?_
  have hg : A.getD k zzero = z := by simp [List.getD, hz]
  have key : ∀ r, r < 4 → idcell A (k + 1) (k * 4 + r) = zcell z r := by
    intro r hr
    unfold idcell
    rw [show (k * 4 + r) / 4 = k by omega, show (k * 4 + r) % 4 = r by omega, if_pos (by omega), hg]
  by_cases e3 : c = k * 4 + 3
  · subst e3; rw [if_pos rfl, key 3 (by omega)]; rfl
  rw [if_neg e3]
  by_cases e2 : c = k * 4 + 2
  · subst e2; rw [if_pos rfl, key 2 (by omega)]; rfl
  rw [if_neg e2]
  by_cases e1 : c = k * 4 + 1
  · subst e1; rw [if_pos rfl, key 1 (by omega)]; rfl
  rw [if_neg e1]
  by_cases e0 : c = k * 4
  · subst e0; rw [if_pos rfl]; rw [show idcell A (k + 1) (k * 4) = zcell z 0 from key 0 (by omega)]; rfl
  rw [if_neg e0]
  unfold idcell
  have : (c / 4 < k) ↔ (c / 4 < k + 1) := by omega
  simp only [this]

theorem idcell_row {w : World} {L n : Nat} {A : List Zid} (hl : A.length = n) (h : w.rowIs L 31 (n * 4) (idcell A n)) : ZRow w (some ⟨L, 0, none⟩) n A := by
  refine ⟨hl, .inr ⟨L, 0, rfl, fun i z hz => ?_⟩⟩
  have hi : i < n := by rw [← hl]; exact (List.getElem?_eq_some_iff.1 hz).1
  have hg : A.getD i zzero = z := by simp [List.getD, hz]
  have key : ∀ r, r < 4 → idcell A n (i * 4 + r) = zcell z r := by
    intro r hr
    unfold idcell
    rw [show (i * 4 + r) / 4 = i by omega, show (i * 4 + r) % 4 = r by omega, if_pos (by omega), hg]
  refine ⟨?_, ?_, ?_, ?_⟩
  · rw [Nat.zero_add, h.cell (i := i * 4) (by omega)]
    rw [show idcell A n (i * 4) = zcell z 0 from key 0 (by omega)]; rfl
  · rw [Nat.zero_add, h.cell (i := i * 4 + 1) (by omega), key 1 (by omega)]; rfl
  · rw [Nat.zero_add, h.cell (i := i * 4 + 1 + 1) (by omega), key 2 (by omega)]; rfl
  · rw [Nat.zero_add, h.cell (i := i * 4 + 1 + 1 + 1) (by omega), key 3 (by omega)]; rfl

/-! ### the two kinds of maps -/

/-- The set 'seen' after k rounds: just the first k identities, which are apart. -/
structure Seen (D : DataW Unit) (A : List Zid) (k : Nat) : Prop where
  isMap : IsMap D
  hit : ∀ z, OkZ z → (∃ i, i < k ∧ A[i]? = some z) → D.atKey (kl z) (.lit (.bool false)) = .lit (.bool true)
  miss : ∀ z, OkZ z → (¬ ∃ i, i < k ∧ A[i]? = some z) → D.atKey (kl z) (.lit (.bool false)) = .lit (.bool false)
  nodup : ∀ (i j : Nat) (z : Zid), i < j → j < k → A[i]? = some z → A[j]? ≠ some z

theorem Seen.start (A : List Zid) : Seen (.map []) A 0 where
  isMap := isMap_empty
  hit := fun z _ ⟨i, hi, _⟩ => by omega
  miss := fun z _ _ => rfl
  nodup := fun i j z _ hj => by omega

theorem Seen.next {D : DataW Unit} {A : List Zid} {k : Nat} {z : Zid} (h : Seen D A k) (hz : A[k]? = some z) (ho : OkZ z) (hn : ¬ ∃ i, i < k ∧ A[i]? = some z) : Seen (D.put (kl z) (.lit (.bool true))) A (k + 1) where
  isMap := h.isMap.put _ _
  hit := by
    intro y hy ⟨i, hi, he⟩
    by_cases e : y = z
    · subst e; exact atKey_put_same h.isMap (kl_key _) _ _
    · rw [atKey_put_other (fun e2 => e (kl_inj hy ho e2))]
      refine h.hit y hy ⟨i, ?_, he⟩
      by_cases e2 : i = k
      · subst e2; rw [hz] at he; exact absurd (Option.some.inj he).symm e
      · omega
  miss := by
    intro y hy hm
    have e : ¬ y = z := fun e => hm ⟨k, by omega, by rw [e]; exact hz⟩
    rw [atKey_put_other (fun e2 => e (kl_inj hy ho e2))]
    exact h.miss y hy fun ⟨i, hi, he⟩ => hm ⟨i, by omega, he⟩
  nodup := by
    intro i j y hij hj hi hjy
    by_cases e : j = k
    · subst e
      rw [hz] at hjy
      obtain rfl := Option.some.inj hjy
      exact hn ⟨i, hij, hi⟩
    · exact h.nodup i j y hij (by omega) hi hjy

theorem Seen.apart {D : DataW Unit} {A : List Zid} (h : Seen D A A.length) : A.Nodup := by
  refine List.pairwise_iff_getElem.2 fun i j hi hj hij e => ?_
  exact h.nodup i j A[i] hij hj (List.getElem?_eq_getElem hi) (by rw [List.getElem?_eq_getElem hj, e])

/-- The index map after k rounds. -/
structure IdxTo (D : DataW Unit) (A : List Zid) (k : Nat) : Prop where
  isMap : IsMap D
  yes : ∀ z, OkZ z → Maps.has D (kl z) = true → ∃ i : Nat, A[i]? = some z ∧ D.atKey (kl z) (.lit (.int .i64 0)) = .lit (.int .i64 (i : Int))
  no : ∀ z, OkZ z → Maps.has D (kl z) = false → ∀ i, i < k → A[i]? ≠ some z

theorem IdxTo.start (A : List Zid) : IdxTo (.map []) A 0 where
  isMap := isMap_empty
  yes := fun z _ h => by simp [Maps.has] at h
  no := fun z _ _ i hi => by omega

theorem IdxTo.next {D : DataW Unit} {A : List Zid} {k : Nat} {z : Zid} (h : IdxTo D A k) (hz : A[k]? = some z) (ho : OkZ z) : IdxTo (D.put (kl z) (.lit (.int .i64 (k : Int)))) A (k + 1) where
  isMap := h.isMap.put _ _
  yes := by
    intro y hy hh
    by_cases e : y = z
    · subst e; exact ⟨k, hz, atKey_put_same h.isMap (kl_key _) _ _⟩
    · have hne : kl y ≠ kl z := fun e2 => e (kl_inj hy ho e2)
      rw [has_put_other hne] at hh
      rw [atKey_put_other hne]
      exact h.yes y hy hh
  no := by
    intro y hy hh i hi he
    by_cases e : y = z
    · subst e
      rw [has_put_same h.isMap (kl_key _)] at hh
      cases hh
    · rw [has_put_other (fun e2 => e (kl_inj hy ho e2))] at hh
      by_cases e2 : i = k
      · subst e2; rw [hz] at he; exact e (Option.some.inj he).symm
      · exact h.no y hy hh i (by omega) he

theorem IdxTo.indexed {D : DataW Unit} {A : List Zid} (h : IdxTo D A A.length) : Indexed D A where
  yes := h.yes
  no := by
    intro z hz hh hm
    obtain ⟨i, hi, e⟩ := List.mem_iff_getElem.1 hm
    exact h.no z hz hh i hi (by rw [List.getElem?_eq_getElem hi, e])

theorem ZRow.at0 {w : World} {L n i : Nat} {A : List Zid} {z : Zid} (h : ZRow w (some ⟨L, 0, none⟩) n A) (hz : A[i]? = some z) : ZAt w L (i * 4) z := by
  rcases h.2 with h0 | ⟨b, off, e, hc⟩
  · have := (List.getElem?_eq_some_iff.1 hz).1
    have := h.1
    omega
  · simp only [Option.some.injEq, Addr.mk.injEq, and_true] at e
    obtain ⟨rfl, rfl⟩ := e
    have := hc i z hz
    rwa [Nat.zero_add] at this

theorem ZRow.grown {w w' : World} {L n mb : Nat} {A : List Zid} (h : ZRow w (some ⟨L, 0, none⟩) n A) (hg : w.grownBy w' (some mb)) (hne : L ≠ mb) : ZRow w' (some ⟨L, 0, none⟩) n A := by
  refine ⟨h.1, ?_⟩
  rcases h.2 with h0 | ⟨b, off, e, hc⟩
  · exact .inl h0
  · refine .inr ⟨b, off, e, fun i z hz => (hc i z hz).of_block (hg.block b (hc i z hz).lt ?_)⟩
    simp only [Option.some.injEq, Addr.mk.injEq, and_true] at e
    simp only [ne_eq, Option.some.injEq]
    omega

end Go.Proofs.Qxb6618312a
