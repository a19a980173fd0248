import Derived.Test.Qxb6618312aIndex
import Derived.Test.Qxb6618312aRising
namespace Go.Proofs.Qxb6618312a
open Go.RowKit Go.Maps

theorem nodup_inj {α : Type} {A : List α} (hd : A.Nodup) {i j : Nat} (hi : i < A.length) (hj : j < A.length) (e : A[i] = A[j]) : i = j := by
  rcases Nat.lt_trichotomy i j with h | h | h
  · exact absurd e (List.pairwise_iff_getElem.1 hd i j hi hj h)
  · exact h
  · exact absurd e.symm (List.pairwise_iff_getElem.1 hd j i hj hi h)

/-! ### the list of common items, round by round -/
structure ComInv (A B : List Zid) (k : Nat) (ms : List (Int × Int)) : Prop where
  len : ms.length ≤ k
  sound : ∀ (x : Nat) (p : Int × Int), ms[x]? = some p → ∃ i j : Nat, p = ((i : Int), (j : Int)) ∧ i < A.length ∧ j < k ∧ A[i]? = B[j]?
  rise : ∀ (x y : Nat) (p q : Int × Int), x < y → ms[x]? = some p → ms[y]? = some q → p.2 < q.2
  full : ∀ i j : Nat, i < A.length → j < k → A[i]? = B[j]? → ∃ x : Nat, ms[x]? = some ((i : Int), (j : Int))

theorem ComInv.start (A B : List Zid) : ComInv A B 0 [] := ⟨Nat.le_refl _, by simp, by simp, fun i j _ hj => by omega⟩

theorem ComInv.miss {A B : List Zid} {k : Nat} {ms : List (Int × Int)} {z : Zid} (h : ComInv A B k ms) (hz : B[k]? = some z) (hn : z ∉ A) : ComInv A B (k + 1) ms where
  len := by have := h.len; omega
  sound := fun x p hp => by
    obtain ⟨i, j, h1, h2, h3, h4⟩ := h.sound x p hp
    exact ⟨i, j, h1, h2, by omega, h4⟩
  rise := h.rise
  full := fun i j hi hj he => by
    by_cases e : j = k
    · subst e
      rw [hz, List.getElem?_eq_getElem hi] at he
      exact absurd ((Option.some.inj he) ▸ List.getElem_mem hi) hn
    · exact h.full i j hi (by omega) he

theorem ComInv.hit {A B : List Zid} {k i : Nat} {ms : List (Int × Int)} {z : Zid} (h : ComInv A B k ms) (hd : A.Nodup) (hz : B[k]? = some z) (hi : A[i]? = some z) : ComInv A B (k + 1) (ms ++ [((i : Int), (k : Int))]) where
  len := by have := h.len; simp; omega
  sound := fun x p hp => by
    by_cases hx : x < ms.length
    · rw [List.getElem?_append_left hx] at hp
      obtain ⟨i, j, h1, h2, h3, h4⟩ := h.sound x p hp
      exact ⟨i, j, h1, h2, by omega, h4⟩
    · rw [List.getElem?_append_right (by omega)] at hp
      have e : x - ms.length = 0 := by
        have := (List.getElem?_eq_some_iff.1 hp).1
        simp at this; omega
      rw [e] at hp
      simp only [List.getElem?_cons_zero, Option.some.injEq] at hp
      exact ⟨i, k, hp.symm, (List.getElem?_eq_some_iff.1 hi).1, by omega, by rw [hi, hz]⟩
  rise := fun x y p q hxy hp hq => by
    have hx : x < ms.length := by
      have := (List.getElem?_eq_some_iff.1 hq).1
      simp at this; omega
    rw [List.getElem?_append_left hx] at hp
    by_cases hy : y < ms.length
    · rw [List.getElem?_append_left hy] at hq
      exact h.rise x y p q hxy hp hq
    · rw [List.getElem?_append_right (by omega)] at hq
      have e : y - ms.length = 0 := by
        have := (List.getElem?_eq_some_iff.1 hq).1
        simp at this; omega
      rw [e] at hq
      simp only [List.getElem?_cons_zero, Option.some.injEq] at hq
      obtain ⟨i', j', h1, _, h3, _⟩ := h.sound x p hp
      subst h1 hq
      simp only
      omega
  full := fun i' j hi' hj he => by
    by_cases e : j = k
    · subst e
      rw [hz] at he
      have hh : i' = i := by
        have h1 := (List.getElem?_eq_some_iff.1 hi).1
        have h2 : A[i'] = A[i] := by
          have := he.trans hi.symm
          rw [List.getElem?_eq_getElem hi', List.getElem?_eq_getElem h1] at this
          exact Option.some.inj this
        exact nodup_inj hd hi' h1 h2
      subst hh
      exact ⟨ms.length, by simp⟩
    · obtain ⟨x, hx⟩ := h.full i' j hi' (by omega) he
      exact ⟨x, by rw [List.getElem?_append_left (List.getElem?_eq_some_iff.1 hx).1]; exact hx⟩

theorem ComInv.common {A B : List Zid} {ms : List (Int × Int)} (h : ComInv A B B.length ms) : Plain.Common A B ms := ⟨h.sound, h.rise, h.full⟩

/-! ### matches in memory -/
def mcells (ms : List (Int × Int)) : List Value := ms.flatMap fun p => [.int .i64 p.1, .int .i64 p.2]

theorem mcells_length (ms : List (Int × Int)) : (mcells ms).length = ms.length * 2 := by
  induction ms with
  | nil => rfl
  | cons p r ih => simp only [mcells, List.flatMap_cons, List.length_append, List.length_cons, List.length_nil] at ih ⊢; omega

theorem mcells_get (ms : List (Int × Int)) : ∀ (i : Nat) (p : Int × Int), ms[i]? = some p → (mcells ms)[i * 2]? = some (.int .i64 p.1) ∧ (mcells ms)[i * 2 + 1]? = some (.int .i64 p.2) := by
  induction ms with
  | nil => intro i p h; simp at h
  | cons q r ih =>
    intro i p h
    cases i with
    | zero => simp only [List.getElem?_cons_zero, Option.some.injEq] at h; subst h; exact ⟨rfl, rfl⟩
    | succ i =>
      have := ih i p (by simpa using h)
      rw [show (i + 1) * 2 = i * 2 + 1 + 1 by omega]
      exact this

theorem mrow_of_owns {w : World} {base : Nat} {v : Value} {ms : List (Int × Int)} (h : w.ownsRow base 43 2 v ms.length (mcells ms)) :
    ∃ ao cap, v = .slice ao ms.length cap ∧ MRow w ao ms.length ms := by
  rcases h.2 with ⟨rfl, h0⟩ | ⟨g, cap, cur, rfl, hb, hg, hnc, hcm, hcs, htake⟩
  · rw [h0]
    exact ⟨none, 0, rfl, h0, .inl rfl⟩
  · refine ⟨_, cap, rfl, rfl, .inr ⟨g, 0, rfl, fun i p hp => ?_⟩⟩
    have hi := (List.getElem?_eq_some_iff.1 hp).1
    obtain ⟨h1, h2⟩ := mcells_get ms i p hp
    exact ⟨by rw [Nat.zero_add, h.cellAt (i * 2) (by omega)]; exact h1, by rw [Nat.zero_add, h.cellAt (i * 2 + 1) (by omega)]; exact h2⟩

theorem mcells_append (ms : List (Int × Int)) (p : Int × Int) : mcells (ms ++ [p]) = mcells ms ++ [.int .i64 p.1, .int .i64 p.2] := by simp [mcells]

/-- What matchKeys hands back. -/
def RetMK (A B : List Zid) (w' : World) (e : Ending) : Prop := ∃ ms, Plain.Common A B ms ∧ RetLR ms w' e

structure MSt (w wr : World) (B : Nat) (lv rv : Array Value) (v : Value) (ms : List (Int × Int)) : Prop where
  lbox : wr.heap[B]? = some (.cells lv 38 (0, 0))
  rbox : wr.heap[B + 1]? = some (.cells rv 38 (0, 0))
  own : wr.ownsRow (B + 2) 43 2 v ms.length (mcells ms)
  below : Below B w wr
  size : B + 2 ≤ wr.heap.size

theorem MSt.below_new {w wr w' : World} {B : Nat} {lv rv : Array Value} {v : Value} {ms : List (Int × Int)} (h : MSt w wr B lv rv v ms) (hb : Below wr.heap.size wr w') : MSt w w' B lv rv v ms where
  lbox := by have := h.size; rw [hb.block B (by omega)]; exact h.lbox
  rbox := by have := h.size; rw [hb.block (B + 1) (by omega)]; exact h.rbox
  own := by
    refine ⟨h.own.1, ?_⟩
    rcases h.own.2 with h2 | ⟨g, cap, cur, hv, hg, hh, r⟩
    · exact .inl h2
    · exact .inr ⟨g, cap, cur, hv, hg, by rw [hb.block g (lt_of_block hh)]; exact hh, r⟩
  below := h.below.trans (hb.mono (by have := h.size; omega))
  size := Nat.le_trans h.size hb.size

theorem MSt.push {w wr w' : World} {B : Nat} {lv rv : Array Value} {v v' : Value} {ms : List (Int × Int)} {p : Int × Int} (h : MSt w wr B lv rv v ms) (ho : w'.ownsRow (B + 2) 43 2 v' (ms.length + 1) (mcells ms ++ [.int .i64 p.1, .int .i64 p.2])) (hg : wr.grownBy w' v.ownBlock) :
    MSt w w' B lv rv v' (ms ++ [p]) := by
  have hne : ∀ b, b < B + 2 → some b ≠ v.ownBlock := fun b hb e => by have := (h.own.lt b e.symm).1; omega
  have hs := h.size
  refine ⟨?_, ?_, by rw [mcells_append]; simpa using ho, ?_, Nat.le_trans hs hg.size⟩
  · rw [hg.block B (by omega) (hne B (by omega))]; exact h.lbox
  · rw [hg.block (B + 1) (by omega) (hne (B + 1) (by omega))]; exact h.rbox
  · exact h.below.grown hg (by omega) (fun k hk => by have := (h.own.lt k hk).1; omega)

theorem two_new {w : World} (W : World) (x y : Value) (t : TypeId) (h : W.heap.size = w.heap.size) : ∀ (j : Nat) (u : Value), [x, y][j]? = some u → (W.alloc (.cells #[x, y] t)).cell? ((⟨w.heap.size, 0, none⟩ : Addr).add j) = some u := by
  intro j u hj
  have e : (⟨w.heap.size, 0, none⟩ : Addr).add j = ⟨w.heap.size, j, none⟩ := by rw [Addr.add_lit, Nat.zero_add]
  rw [e, ← h, cell_of_row _ _ _ _ _ _ (Go.heap_alloc_new W _)]
  simpa using hj

set_option maxRecDepth 100000 in
set_option maxHeartbeats 1000000 in
theorem matchKeys_any (lo : Option Addr) (ln lc : Nat) (m : Option Nat) (lk : Bool) (ro : Option Addr) (rn rc : Nat) (rm : Option Nat) (rk : Bool) (A B : List Zid) (w : World) (ha : ZRow w lo ln A) (hb : ZRow w ro rn B) (hm : AtMap w m A)
    (hd : A.Nodup) (hok : ∀ z ∈ B, OkZ z) (hn : ln ≤ 1048576) (hrn : rn ≤ 1048576) :
    Calls Try.prog 11 #[.agg #[.slice lo ln lc, .map m, .bool lk], .agg #[.slice ro rn rc, .map rm, .bool rk]] w fun e w' => RetMK A B w' e ∧ Below w.heap.size w w' := by
  obtain ⟨i0, hi, hz0, hz1, hz2⟩ := info_parts Try.info43
  go_enter Try.func11, Try.ntmps11
  go_wp2_with fail
  have S0 : MSt w ((w.alloc (.cells #[.slice lo ln lc, .map m, .bool lk] 38)).alloc (.cells #[.slice ro rn rc, .map rm, .bool rk] 38)) w.heap.size #[.slice lo ln lc, .map m, .bool lk] #[.slice ro rn rc, .map rm, .bool rk] (.slice none 0 0) [] :=
    ⟨by rw [Below.heap_alloc _ _ _ (by simp)]; exact Go.heap_alloc_new w _, by have := Go.heap_alloc_new (w.alloc (.cells #[.slice lo ln lc, .map m, .bool lk] 38)) (.cells #[.slice ro rn rc, .map rm, .bool rk] 38); simpa using this, World.ownsRow_nil _ _ _ _, ((Below.refl _ _).alloc (Nat.le_refl _) _).alloc (by simp) _, by simp⟩
  generalize (w.alloc (.cells #[.slice lo ln lc, .map m, .bool lk] 38)).alloc (.cells #[.slice ro rn rc, .map rm, .bool rk] 38) = w0 at S0 ⊢
  have HD : Hid A.Nodup := hd
  have HO : Hid (∀ z ∈ B, OkZ z) := hok
  clear hd hok
  go_loopw [5, 13] (fun v i wr => ∃ (k : Nat) (ms : List (Int × Int)), k ≤ rn ∧ i = .int .i64 k ∧ ComInv A B k ms ∧ MSt w wr w.heap.size #[.slice lo ln lc, .map m, .bool lk] #[.slice ro rn rc, .map rm, .bool rk] v ms) (fun _ i _ => rn - (intOf i).toNat)
  case atStart => exact ⟨0, [], Nat.zero_le _, rfl, ComInv.start A B, S0⟩
  case round =>
    clear S0
    obtain ⟨k, ms, hk, rfl, I1, S1⟩ := hrel
    obtain ⟨eo, ec, hv, hmr⟩ := mrow_of_owns S1.own
    subst hv
    have hlen := I1.len
    by_cases hlt : k < rn
    · obtain ⟨hbl, hb2⟩ := hb.below S1.below
      rcases hb2 with h0 | ⟨b, off, hro, hb2⟩
      · omega
      subst hro
      obtain ⟨z, hzk⟩ : ∃ z, B[k]? = some z := ⟨_, List.getElem?_eq_getElem (by omega)⟩
      obtain ⟨c0, c1, c2, c3⟩ := hb2 k z hzk
      have hzo := HO.out z (List.mem_of_getElem? hzk)
      have HZ : Hid (B[k]? = some z) := hzk
      have hsz := S1.size
      have hlb : ∀ o, (wr.alloc o).heap[w.heap.size]? = some (.cells #[.slice lo ln lc, .map m, .bool lk] 38 (0, 0)) := fun o => by rw [Below.heap_alloc wr o _ (by omega)]; exact S1.lbox
      have l0 : ∀ o, (wr.alloc o).cell? ⟨w.heap.size, 0, none⟩ = some (.slice lo ln lc) := fun o => by rw [cell_of_row _ _ _ _ _ _ (hlb o)]; rfl
      have l1 : ∀ o, (wr.alloc o).cell? ⟨w.heap.size, 1, none⟩ = some (.map m) := fun o => by rw [cell_of_row _ _ _ _ _ _ (hlb o)]; rfl
      have l2 : ∀ o, (wr.alloc o).cell? ⟨w.heap.size, 2, none⟩ = some (.bool lk) := fun o => by rw [cell_of_row _ _ _ _ _ _ (hlb o)]; rfl
      clear hb2 hzk hbl hlb
      go_wp2_with fail
      have S2 := S1.below_new ((Below.refl _ _).alloc (Nat.le_refl _) (.cells #[.string z.1, .bool z.2.1, .string z.2.2.1, .int .i64 z.2.2.2] 31))
      generalize wr.alloc (.cells #[.string z.1, .bool z.2.1, .string z.2.2.1, .int .i64 z.2.2.2] 31) = w1 at S2 ⊢
      clear l0 l1 l2 c0 c1 c2 c3 S1 hmr
      refine (keyedIndex_any lo ln lc m lk z A w1 (ha.below S2.below) (hm.below S2.below) hzo (by omega)).mono ?_
      rintro e w2 ⟨⟨r, ok, rfl, hyes, hno⟩, hb2⟩
      have S3 := S2.below_new hb2
      clear S2 hb2
      cases ok with
      | false =>
        have I2 := I1.miss HZ.out (hno rfl)
        clear hyes hno
        go_wp2_with fail
        go_roundw
        case rel => exact ⟨k + 1, ms, by omega, by go_num, I2, S3⟩
        case measure => simp [intOf]; omega
      | true =>
        obtain ⟨i, hri, hAi⟩ := hyes rfl
        subst hri
        have I2 := I1.hit HD.out HZ.out hAi
        have S4 := S3.below_new ((Below.refl _ _).alloc (Nat.le_refl _) (.cells #[.int .i64 (i : Int), .int .i64 (k : Int)] 43))
        clear hyes hno hAi
        go_wp2_with (at_builtin; refine wpList_append_own2 _ rfl _ _ 35 rfl (w.heap.size + 2) 43 i0 (.agg #[.int .i64 0, .int .i64 0]) 2 16 Try.underlying35 hi hz0 hz1 hz2 rfl (by decide) _ ms.length (mcells ms) rfl S4.own ⟨w2.heap.size, 0, none⟩ 1 1 [.int .i64 (i : Int), .int .i64 (k : Int)] rfl rfl ?q1 ?q2 ?q3 ?q4 ?q5 ?_)
        case q1 => exact two_new _ _ _ _ rfl
        case q2 => intro u hu; simp at hu; rcases hu with rfl | rfl <;> rfl
        case q3 => unfold maxLen; omega
        case q4 => omega
        case q5 => have := S4.size; simp at this ⊢; omega
        · intro v' w3 hown' hgrow _
          have S5 := S4.push (p := ((i : Int), (k : Int))) hown' hgrow
          obtain ⟨no, nc, hv', _⟩ := mrow_of_owns S5.own
          subst hv'
          clear hown' hgrow S4 S3
          go_wp2_with fail
          go_roundw
          case rel => exact ⟨k + 1, _, by omega, by go_num, I2, S5⟩
          case measure => simp [intOf]; omega
    · obtain rfl : rn = k := by omega
      have hp : ∀ p ∈ ms, 0 ≤ p.1 ∧ p.1 ≤ 1099511627776 := by
        intro p hp
        obtain ⟨x, hx, e⟩ := List.mem_iff_getElem.1 hp
        obtain ⟨i, j, h1, h2, _⟩ := I1.sound x p (by rw [List.getElem?_eq_getElem hx, e])
        have := ha.1
        rw [h1]
        simp only
        omega
      have HC : Hid (Plain.Common A B ms) := by
        have e := hb.1
        subst e
        exact I1.common
      have HP : Hid (∀ p ∈ ms, 0 ≤ p.1 ∧ p.1 ≤ 1099511627776) := hp
      clear hp hk I1
      go_wp2_with fail
      refine (rising_any eo ms.length ec ms _ hmr HP.out (by omega)).mono ?_
      rintro e w2 ⟨hr, hb2⟩
      obtain ⟨ro2, rc2, t, f, rs, rfl, hrest⟩ := hr
      have B2 := S1.below.trans (hb2.mono (by have := S1.size; omega))
      have HR : Hid (RetLR ms w2 (.returned (.slice ro2 t rc2))) := ⟨ro2, rc2, t, f, rs, rfl, hrest⟩
      clear hrest hb2 S1 hmr
      go_wp2_with fail
      go_ret
      exact ⟨⟨ms, HC.out, HR.out⟩, B2⟩

end Go.Proofs.Qxb6618312a
