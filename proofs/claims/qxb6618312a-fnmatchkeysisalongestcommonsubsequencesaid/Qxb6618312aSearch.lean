import Derived.Test.Qxb6618312aParts
namespace Go.Proofs.Qxb6618312a
open Go.RowKit

/-- The two cells of a match at an address. -/
structure MAt (w : World) (b off : Nat) (p : Int × Int) : Prop where
  c0 : w.cell? ⟨b, off, none⟩ = some (.int .i64 p.1)
  c1 : w.cell? ⟨b, off + 1, none⟩ = some (.int .i64 p.2)

theorem MAt.of_block {w w' : World} {b off : Nat} {p : Int × Int} (h : MAt w b off p) (e : w'.heap[b]? = w.heap[b]?) : MAt w' b off p :=
  ⟨(World.cell?_of_block (a := ⟨b, off, none⟩) e).trans h.c0, (World.cell?_of_block (a := ⟨b, off + 1, none⟩) e).trans h.c1⟩

theorem MAt.lt {w : World} {b off : Nat} {p : Int × Int} (h : MAt w b off p) : b < w.heap.size := World.block_lt_of_cell? w _ h.c0

/-- A slice of matches (two cells each) at 'ao', of length n, reads ms. -/
def MRow (w : World) (ao : Option Addr) (n : Nat) (ms : List (Int × Int)) : Prop :=
  ms.length = n ∧ (n = 0 ∨ ∃ b off, ao = some ⟨b, off, none⟩ ∧ ∀ i p, ms[i]? = some p → MAt w b (off + i * 2) p)

theorem MRow.below {w w' : World} {ao : Option Addr} {n : Nat} {ms : List (Int × Int)} (h : MRow w ao n ms) (hb : Below w.heap.size w w') : MRow w' ao n ms := by
  refine ⟨h.1, ?_⟩
  rcases h.2 with h0 | ⟨b, off, e, hc⟩
  · exact .inl h0
  · exact .inr ⟨b, off, e, fun i z hz => (hc i z hz).of_block (hb.block b (hc i z hz).lt)⟩

/-- A slice of places (numbers below a bound) at 'ao', of length n, reads es. -/
def NRow (w : World) (ao : Option Addr) (n : Nat) (es : List Nat) : Prop :=
  es.length = n ∧ (n = 0 ∨ ∃ b off, ao = some ⟨b, off, none⟩ ∧ ∀ (i x : Nat), es[i]? = some x → w.cell? ⟨b, off + i, none⟩ = some (.int .i64 (x : Int)))

set_option maxHeartbeats 400000 in
theorem closure_any (mb : Nat) (mo : Option Addr) (mn mc x : Nat) (t : Int) (p : Int × Int) (ms : List (Int × Int)) (w : World) (hm : MRow w mo mn ms) (hbox : w.cell? ⟨mb, 0, none⟩ = some (.slice mo mn mc)) (hx : ms[x]? = some p)
    (hp : 0 ≤ p.1 ∧ p.1 ≤ 1099511627776) (ht : 0 ≤ t ∧ t ≤ 1099511627776) :
    Calls Try.prog 16 #[.int .i64 (x : Int), .int .i64 t, .pointer (some ⟨mb, 0, none⟩)] w fun e w' => e = .returned (.int .i64 (p.1 - t)) ∧ w' = w := by
  obtain ⟨hl, hm⟩ := hm
  have hlt : x < mn := by rw [← hl]; exact (List.getElem?_eq_some_iff.1 hx).1
  rcases hm with h0 | ⟨b, off, rfl, hm⟩
  · omega
  obtain ⟨c0, c1⟩ := hm x p hx
  clear hx hm hl
  go_enter Try.func16, Try.ntmps16
  go_wp2
  go_ret
  exact ⟨rfl, rfl⟩

/-- The live index of the match that ends the i-th chain. -/
def lvl (ms : List (Int × Int)) (es : List Nat) (i : Nat) : Int := (ms.getD (es.getD i 0) (0, 0)).1

theorem lvl_eq {ms : List (Int × Int)} {es : List Nat} {i x : Nat} {p : Int × Int} (h1 : es[i]? = some x) (h2 : ms[x]? = some p) : lvl ms es i = p.1 := by
  simp [lvl, List.getD, h1, h2]

/-- What the search says: the number of chains that end below t. -/
def Split (ms : List (Int × Int)) (es : List Nat) (n : Nat) (t : Int) (k : Nat) : Prop :=
  k ≤ n ∧ (∀ s, s < k → lvl ms es s < t) ∧ (∀ s, k ≤ s → s < n → t ≤ lvl ms es s)
def RetSplit (ms : List (Int × Int)) (es : List Nat) (n : Nat) (t : Int) (e : Ending) : Prop := ∃ k f, e = .returned (.tuple #[.int .i64 ((k : Nat) : Int), .bool f]) ∧ Split ms es n t k

theorem below_mid {ms : List (Int × Int)} {es : List Nat} {n m : Nat} {t : Int} (hs : ∀ i j, i < j → j < n → lvl ms es i < lvl ms es j) (hm : m < n) (h : lvl ms es m < t) : Hid (∀ s, s < m + 1 → lvl ms es s < t) := by
  intro s h1
  by_cases e : s = m
  · subst e; exact h
  · have := hs s m (by omega) hm; omega

theorem above_mid {ms : List (Int × Int)} {es : List Nat} {n m : Nat} {t : Int} (hs : ∀ i j, i < j → j < n → lvl ms es i < lvl ms es j) (h : t ≤ lvl ms es m) : Hid (∀ s, m ≤ s → s < n → t ≤ lvl ms es s) := by
  intro s h1 h2
  by_cases e : s = m
  · subst e; exact h
  · have := hs m s (by omega) h2; omega

set_option maxHeartbeats 400000 in
theorem search_any (ao : Option Addr) (n c : Nat) (es : List Nat) (mb : Nat) (mo : Option Addr) (mn mc : Nat) (t : Int) (ms : List (Int × Int)) (w : World) (hm : MRow w mo mn ms) (hbox : w.cell? ⟨mb, 0, none⟩ = some (.slice mo mn mc)) (he : NRow w ao n es)
    (hp : ∀ p ∈ ms, 0 ≤ p.1 ∧ p.1 ≤ 1099511627776) (ht : 0 ≤ t ∧ t ≤ 1099511627776) (hn : n ≤ 1099511627776) (hes : ∀ x ∈ es, x < mn) (hs : ∀ i j, i < j → j < n → lvl ms es i < lvl ms es j) :
    Calls Try.prog 15 #[.slice ao n c, .int .i64 t, .func (.func 16) #[] #[.pointer (some ⟨mb, 0, none⟩)]] w fun e w' => RetSplit ms es n t e ∧ w' = w := by
  have HS : Hid (∀ i j, i < j → j < n → lvl ms es i < lvl ms es j) := hs
  have HP : Hid (∀ p ∈ ms, 0 ≤ p.1 ∧ p.1 ≤ 1099511627776) := hp
  have HE : Hid (∀ x ∈ es, x < mn) := hes
  clear hs hp hes
  obtain ⟨hel, he⟩ := he
  have HEL : Hid (es.length = n) := hel
  clear hel
  have find : Hid (∀ m, m < n → ∃ (x : Nat) (p : Int × Int), es[m]? = some x ∧ ms[x]? = some p ∧ lvl ms es m = p.1 ∧ 0 ≤ p.1 ∧ p.1 ≤ 1099511627776) := by
    intro m hmm
    have h1 : m < es.length := by rw [HEL.out]; exact hmm
    have h2 : es[m] < ms.length := by rw [hm.1]; exact HE.out _ (List.getElem_mem h1)
    exact ⟨es[m], ms[es[m]], List.getElem?_eq_getElem h1, List.getElem?_eq_getElem h2, lvl_eq (List.getElem?_eq_getElem h1) (List.getElem?_eq_getElem h2), (HP.out _ (List.getElem_mem h2)).1, (HP.out _ (List.getElem_mem h2)).2⟩
  go_enter Try.func15, Try.ntmps15
  go_wp2
  go_loop [9, 10] (fun vi vj => ∃ i j : Nat, i ≤ j ∧ j ≤ n ∧ vi = .int .i64 i ∧ vj = .int .i64 j ∧ Hid (∀ s, s < i → lvl ms es s < t) ∧ Hid (∀ s, j ≤ s → s < n → t ≤ lvl ms es s)) (fun i j => (intOf j).toNat - (intOf i).toNat)
  case atStart => exact ⟨0, n, Nat.zero_le _, Nat.le_refl _, rfl, rfl, fun s hs => by omega, fun s h1 h2 => by omega⟩
  case round =>
    obtain ⟨i, j, hij, hjn, rfl, rfl, H1, H2⟩ := hrel
    by_cases hlt : i < j
    · rcases he with h0 | ⟨b, off, rfl, he⟩
      · omega
      obtain ⟨x, p, hx, hpx, hlv, hp0, hp1⟩ := find.out ((i + j) / 2) (by omega)
      have hc := he _ x hx
      have HX : Hid (es[(i + j) / 2]? = some x) := hx
      have HLV : Hid (lvl ms es ((i + j) / 2) = p.1) := hlv
      clear he hx hlv
      go_wp2_with fail
      refine (closure_any mb mo mn mc x t p ms _ hm hbox hpx ⟨hp0, hp1⟩ ht).mono ?_
      rintro e w1 ⟨rfl, hw⟩
      obtain rfl := hw.symm
      by_cases hpt : p.1 < t
      · have hd : p.1 - t < 0 := by omega
        go_wp2_with fail
        go_round
        case rel => exact ⟨(i + j) / 2 + 1, j, by omega, by omega, by go_num, rfl, below_mid HS.out (by omega) (by rw [HLV.out]; exact hpt), H2⟩
        case measure => simp [intOf]; omega
      · have hd : ¬ p.1 - t < 0 := by omega
        go_wp2_with fail
        go_round
        case rel => exact ⟨i, (i + j) / 2, by omega, by omega, rfl, by go_num, H1, above_mid HS.out (by rw [HLV.out]; omega)⟩
        case measure => simp [intOf]; omega
    · obtain rfl : i = j := by omega
      by_cases hin : i < n
      · rcases he with h0 | ⟨b, off, rfl, he⟩
        · omega
        obtain ⟨x, p, hx, hpx, hlv, hp0, hp1⟩ := find.out i hin
        have hc := he _ x hx
        clear he hx hlv
        go_wp2_with fail
        refine (closure_any mb mo mn mc x t p ms _ hm hbox hpx ⟨hp0, hp1⟩ ht).mono ?_
        rintro e w1 ⟨rfl, hw⟩
        obtain rfl := hw.symm
        go_wp2_with fail
        go_ret2
        exact ⟨⟨i, _, rfl, hjn, H1.out, H2.out⟩, rfl⟩
      · have hd : decide ((i : Int) < (n : Int)) = false := by simp; omega
        go_wp2_with fail
        go_ret2
        exact ⟨⟨i, _, rfl, hjn, H1.out, H2.out⟩, rfl⟩

end Go.Proofs.Qxb6618312a
