import Derived.Test.Qxb6618312aRisingParts
namespace Go.Proofs.Qxb6618312a
open Go.RowKit

theorem Try.info3 : (Try.prog.info? 3).map (fun i => (i.zero, i.size, i.bytes)) = some (some (.int .i64 0), 1, 8) := by kernel_rfl
theorem Try.info43 : (Try.prog.info? 43).map (fun i => (i.zero, i.size, i.bytes)) = some (some (.agg #[.int .i64 0, .int .i64 0]), 2, 16) := by kernel_rfl

/-- 'make([]match, n)'. -/
theorem make43 (n : Nat) (hn : n ≤ 1099511627776) (w : World) :
    (Instr.makeSlice 35 (.int .i64 (n : Int)) (.int .i64 (n : Int))).run Try.prog w = .ok (.slice (some ⟨w.heap.size, 0, none⟩) n n) (w.alloc (.cells (madeCells #[.int .i64 0, .int .i64 0] (n * 2)) 43)) := by
  obtain ⟨i, hi, hz, hs, hb⟩ := info_parts Try.info43
  have hr := run_make (P := Try.prog) w 35 43 i _ Try.underlying35 hi hz .i64 .i64 n n (by omega) (Int.le_refl _) (by rw [hb]; omega) (by omega)
  simp only [Int.toNat_natCast, hs] at hr
  exact hr

/-- What longestRising hands back. -/
def RetLR (ms : List (Int × Int)) (w' : World) (e : Ending) : Prop :=
  ∃ ro rc t f rs, e = .returned (.slice ro t rc) ∧ MRow w' ro t rs ∧ (∀ i, i < t → rs[i]? = ms[f i]?) ∧ Plain.LRes (Plain.live ms) ms.length t f

theorem split_lo {ms : List (Int × Int)} {es : List Nat} {k n : Nat} {p : Int × Int} {bf : Nat → Int} {lev : Nat → Nat} (hk : ms[k]? = some p) (_h : Plain.LInv (Plain.live ms) k es bf lev) (hs : Split ms es es.length p.1 n) :
    (∀ (i x : Nat), i < n → es[i]? = some x → Plain.live ms x < Plain.live ms k) ∧ (∀ (i x : Nat), n ≤ i → es[i]? = some x → Plain.live ms k ≤ Plain.live ms x) := by
  refine ⟨fun i x hi hx => ?_, fun i x hi hx => ?_⟩
  · have := hs.2.1 i hi
    rw [Plain.live_eq hk]
    simpa [lvl, Plain.live, List.getD, hx] using this
  · have := hs.2.2 i hi (List.getElem?_eq_some_iff.1 hx).1
    rw [Plain.live_eq hk]
    simpa [lvl, Plain.live, List.getD, hx] using this

theorem lvl_rise {ms : List (Int × Int)} {es : List Nat} {k : Nat} {bf : Nat → Int} {lev : Nat → Nat} (h : Plain.LInv (Plain.live ms) k es bf lev) : ∀ i j, i < j → j < es.length → lvl ms es i < lvl ms es j := by
  intro i j hij hj
  have := h.rise i j es[i] es[j] hij (List.getElem?_eq_getElem (by omega)) (List.getElem?_eq_getElem hj)
  simpa [lvl, Plain.live, List.getD, hj, show i < es.length by omega] using this

theorem ends_lt {L : Nat → Int} {es : List Nat} {k mn : Nat} {bf : Nat → Int} {lev : Nat → Nat} (h : Plain.LInv L k es bf lev) (hk : k ≤ mn) : ∀ x ∈ es, x < mn := by
  intro x hx
  obtain ⟨i, hi, e⟩ := List.mem_iff_getElem.1 hx
  have := (h.lt i x (by rw [List.getElem?_eq_getElem hi, e])).1
  omega

theorem LSt.start (w : World) (mv : Value) (mn : Nat) (bf : Nat → Int) : LSt w ((w.alloc (.cells #[mv] 35)).alloc (.cells (madeCells #[.int .i64 0] mn) 3)) w.heap.size mv mn 0 (.slice none 0 0) [] bf where
  box := by rw [Below.heap_alloc _ _ _ (by simp)]; exact Go.heap_alloc_new w _
  ends := World.ownsRow_nil _ _ _ _
  bef := by
    have := World.rowIs_made (w.alloc (.cells #[mv] 35)) (.int .i64 0) mn 3
    rw [show (w.alloc (.cells #[mv] 35)).heap.size = w.heap.size + 1 by simp] at this
    exact this.congr fun i hi => by simp
  below := ((Below.refl _ _).alloc (Nat.le_refl _) _).alloc (by simp) _
  size := by simp

/-- The cell of the result at place c, when the last of the places from r on are filled. -/
def rcell (ms : List (Int × Int)) (nd : Nat → Nat) (t r c : Nat) : Value :=
  .int .i64 (if r ≤ c / 2 then (if c % 2 = 0 then (ms.getD (nd (t - c / 2)) (0, 0)).1 else (ms.getD (nd (t - c / 2)) (0, 0)).2) else 0)

theorem rcell_made (w : World) (ms : List (Int × Int)) (nd : Nat → Nat) (t : Nat) : (w.alloc (.cells (madeCells #[.int .i64 0, .int .i64 0] ((t + 1) * 2)) 43)).rowIs w.heap.size 43 ((t + 1) * 2) (rcell ms nd t (t + 1)) := by
  refine ⟨_, Go.heap_alloc_new w _, size_madeCells _ _, fun i hi => ?_⟩
  have h2 : ¬ (t + 1 ≤ i / 2) := by omega
  rcases Nat.mod_two_eq_zero_or_one i with e | e <;> simp [madeCells, hi, rcell, h2, e]

theorem rcell_step {w : World} {R t r : Nat} {ms : List (Int × Int)} {nd : Nat → Nat} {p : Int × Int} (h : w.rowIs R 43 ((t + 1) * 2) (rcell ms nd t (r + 1))) (hp : ms[nd (t - r)]? = some p) :
    ((w.setCell ⟨R, r * 2, none⟩ (.int .i64 p.1)).setCell ⟨R, r * 2 + 1, none⟩ (.int .i64 p.2)).rowIs R 43 ((t + 1) * 2) (rcell ms nd t r) := by
  refine ((h.set (r * 2) _).set (r * 2 + 1) _).congr fun c hc => ?_
  have hg : ms.getD (nd (t - r)) (0, 0) = p := by simp [List.getD, hp]
  by_cases e1 : c = r * 2 + 1
  · subst e1
    have e2 : (r * 2 + 1) / 2 = r := by omega
    have e3 : (r * 2 + 1) % 2 = 1 := by omega
    rw [if_pos rfl]
    unfold rcell
    rw [e2, e3, if_pos (Nat.le_refl _), if_neg (by omega), hg]
  · rw [if_neg e1]
    by_cases e2 : c = r * 2
    · subst e2
      have e2 : (r * 2) / 2 = r := by omega
      have e3 : (r * 2) % 2 = 0 := by omega
      rw [if_pos rfl]
      unfold rcell
      rw [e2, e3, if_pos (Nat.le_refl _), if_pos rfl, hg]
    · rw [if_neg e2]
      have : (r + 1 ≤ c / 2) ↔ (r ≤ c / 2) := by omega
      simp only [rcell, this]

theorem rcell_row {w : World} {R t : Nat} {ms : List (Int × Int)} {nd : Nat → Nat} (h : w.rowIs R 43 ((t + 1) * 2) (rcell ms nd t 0)) :
    MRow w (some ⟨R, 0, none⟩) (t + 1) ((List.range (t + 1)).map fun i => ms.getD (nd (t - i)) (0, 0)) := by
  refine ⟨by simp, .inr ⟨R, 0, rfl, fun i p hp => ?_⟩⟩
  rw [List.getElem?_map] at hp
  have hi : i < t + 1 := by
    by_cases hi : i < t + 1
    · exact hi
    · rw [List.getElem?_eq_none (by simp; omega)] at hp; cases hp
  rw [List.getElem?_range hi] at hp
  obtain rfl := Option.some.inj hp
  refine ⟨?_, ?_⟩
  · rw [Nat.zero_add, h.cell (i := i * 2) (by omega)]
    have e2 : (i * 2) / 2 = i := by omega
    have e3 : (i * 2) % 2 = 0 := by omega
    simp [rcell, e2, e3]
  · rw [Nat.zero_add, h.cell (i := i * 2 + 1) (by omega)]
    have e2 : (i * 2 + 1) / 2 = i := by omega
    have e3 : (i * 2 + 1) % 2 = 1 := by omega
    simp [rcell, e2, e3]

set_option maxRecDepth 100000 in
set_option maxHeartbeats 1000000 in
theorem rising_any (mo : Option Addr) (mn mc : Nat) (ms : List (Int × Int)) (w : World) (hm : MRow w mo mn ms) (hp : ∀ p ∈ ms, 0 ≤ p.1 ∧ p.1 ≤ 1099511627776) (hn : mn ≤ 1048576) :
    Calls Try.prog 13 #[.slice mo mn mc] w fun e w' => RetLR ms w' e ∧ Below w.heap.size w w' := by
  have hmk := run_make_row' (P := Try.prog) 44 3 (.int .i64 0) 8 Try.underlying44 Try.info3 rfl .i64 .i64 mn (by omega) (by omega)
  obtain ⟨i0, hi, hz0, hz1, hz2⟩ := info_parts Try.info3
  go_enter Try.func13, Try.ntmps13
  go_wp2_with fail
  have S0 := LSt.start w (.slice mo mn mc) mn (fun _ => 0)
  have I0 := Plain.LInv.start (Plain.live ms) (fun _ => 0) (fun _ => 0)
  generalize (w.alloc (.cells #[.slice mo mn mc] 35)).alloc (.cells (madeCells #[.int .i64 0] mn) 3) = w0 at S0 ⊢
  have HP : Hid (∀ p ∈ ms, 0 ≤ p.1 ∧ p.1 ≤ 1099511627776) := hp
  clear hp hmk
  go_loopw [3, 17] (fun v i wr => ∃ (k : Nat) (es : List Nat) (bf : Nat → Int) (lev : Nat → Nat), k ≤ mn ∧ i = .int .i64 k ∧ Plain.LInv (Plain.live ms) k es bf lev ∧ LSt w wr w.heap.size (.slice mo mn mc) mn k v es bf) (fun _ i _ => mn - (intOf i).toNat)
  case atStart => exact ⟨0, [], _, _, Nat.zero_le _, rfl, I0, S0⟩
  case round =>
    clear S0 I0
    obtain ⟨k, es, bf, lev, hk, rfl, I1, S1⟩ := hrel
    obtain ⟨eo, ec, hv, hec, _, _⟩ := nrow_of_owns S1.ends
    subst hv
    have hlen := I1.len
    by_cases hlt : k < mn
    · obtain ⟨hml, hm2⟩ := hm.below S1.below
      rcases hm2 with h0 | ⟨b, off, hmo, hm2⟩
      · omega
      subst hmo
      obtain ⟨p, hpk⟩ : ∃ p, ms[k]? = some p := ⟨_, List.getElem?_eq_getElem (by omega)⟩
      obtain ⟨c0, c1⟩ := hm2 k p hpk
      have hpb := HP.out p (List.mem_of_getElem? hpk)
      have S2 := S1.alloc (.cells #[.int .i64 p.1, .int .i64 p.2] 43)
      have HK : Hid (ms[k]? = some p) := hpk
      have HML : Hid (ms.length = mn) := hml
      clear hm2 hpk hml
      go_wp2_with fail
      have S2' := S2
      generalize wr.alloc (.cells #[.int .i64 p.1, .int .i64 p.2] 43) = w1 at S2 S2' ⊢
      obtain ⟨eo2, ec2, hv2, _, hnr, hgg⟩ := nrow_of_owns S2.ends
      simp only [Value.slice.injEq, true_and] at hv2
      obtain ⟨rfl, rfl⟩ := hv2
      have hr1 := hm.below S2.below
      refine (search_any eo es.length ec es w.heap.size (some ⟨b, off, none⟩) mn mc p.1 ms w1 hr1 (cell_of_one S2.box) hnr HP.out hpb (by omega) (ends_lt I1 (by omega)) (lvl_rise I1)).mono ?_
      rintro e w2 ⟨⟨n, f, rfl, hsp⟩, hw2⟩
      obtain rfl := hw2.symm
      obtain ⟨hlo, hhi⟩ := split_lo HK.out I1 hsp
      have hnl := hsp.1
      have ST : Hid (∀ b' : Int, ((n = 0 ∧ b' = -1) ∨ ∃ y : Nat, 0 < n ∧ es[n - 1]? = some y ∧ b' = (y : Int)) → Plain.LInv (Plain.live ms) (k + 1) (Plain.put es n k) (fun x => if x = k then b' else bf x) (fun x => if x = k then n else lev x)) := fun b' hb => I1.step hnl hlo hhi hb
      have hbc := S2.bef.cell hlt
      have hbf := S2.bef.frozen k
      have S3 := S2.before (-1)
      clear hsp hlo hhi S1 c0 c1 hr1 hnr S2'
      by_cases hnl2 : n = es.length
      · subst hnl2
        by_cases hn0 : es.length ≤ 0
        · have ST2 := ST.out (-1) (.inl ⟨by omega, rfl⟩)
          have S5 := S3.alloc (.cells #[nv k] 3)
          clear ST S3 S2 I1
          go_wp2_with (at_builtin; refine wpList_append_own2 _ rfl _ _ 44 rfl (w.heap.size + 2) 3 i0 (.int .i64 0) 1 8 Try.underlying44 hi hz0 hz1 hz2 rfl (by decide) _ es.length (es.map nv) rfl S5.ends ⟨w1.heap.size, 0, none⟩ 1 1 [nv k] rfl rfl ?qa1 ?qa2 ?qa3 ?qa4 ?qa5 ?_)
          case qa1 => exact one_new _ _ _ (by simp)
          case qa2 => intro u hu; simp at hu; subst hu; rfl
          case qa3 => unfold maxLen; omega
          case qa4 => omega
          case qa5 => have := S5.size; simp at this ⊢; omega
          · intro v' w3 hown' hgrow _
            have S6 := S5.push hown' hgrow
            obtain ⟨no, nc, hv', _, _, _⟩ := nrow_of_owns S6.ends
            subst hv'
            clear hown' hgrow S5
            go_wp2_with fail
            go_roundw
            case rel => exact ⟨k + 1, _, _, _, by omega, by go_num, ST2, S6⟩
            case measure => simp [intOf]; omega
        · obtain ⟨g, hg, rfl, hgc, hgf⟩ := hgg (by omega)
          have g0 := hgc (es.length - 1) (by omega)
          have hy : es[es.length - 1]? = some (es.getD (es.length - 1) 0) := by simp [List.getD, show es.length - 1 < es.length by omega]
          have ST2 := ST.out ((es.getD (es.length - 1) 0 : Nat) : Int) (.inr ⟨_, by omega, hy, rfl⟩)
          have S5 := (S3.before2 ((es.getD (es.length - 1) 0 : Nat) : Int)).alloc (.cells #[nv k] 3)
          clear ST S3 hy S2 I1 hgc hgf hgg
          go_wp2_with (at_builtin; refine wpList_append_own2 _ rfl _ _ 44 rfl (w.heap.size + 2) 3 i0 (.int .i64 0) 1 8 Try.underlying44 hi hz0 hz1 hz2 rfl (by decide) _ es.length (es.map nv) rfl S5.ends ⟨w1.heap.size, 0, none⟩ 1 1 [nv k] rfl rfl ?qb1 ?qb2 ?qb3 ?qb4 ?qb5 ?_)
          case qb1 => exact one_new _ _ _ (by simp)
          case qb2 => intro u hu; simp at hu; subst hu; rfl
          case qb3 => unfold maxLen; omega
          case qb4 => omega
          case qb5 => have := S5.size; simp at this ⊢; omega
          · intro v' w3 hown' hgrow _
            have S6 := S5.push hown' hgrow
            obtain ⟨no, nc, hv', _, _, _⟩ := nrow_of_owns S6.ends
            subst hv'
            clear hown' hgrow S5
            go_wp2_with fail
            go_roundw
            case rel => exact ⟨k + 1, _, _, _, by omega, by go_num, ST2, S6⟩
            case measure => simp [intOf]; omega
      · have hltn : n < es.length := Nat.lt_of_le_of_ne hnl hnl2
        obtain ⟨g, hg, rfl, hgc, hgf⟩ := hgg (Nat.lt_of_le_of_lt (Nat.zero_le _) hltn)
        clear hgg hnl2
        by_cases hn0 : n ≤ 0
        · obtain rfl : n = 0 := by omega
          have ST2 := ST.out (-1) (.inl ⟨rfl, rfl⟩)
          have g0 := hgc 0 (by omega)
          have g1 := hgf 0
          have S4 := S3.put 0 k (by omega)
          clear hgc hgf ST S3 S2 I1
          go_wp2_with fail
          go_roundw
          case rel => exact ⟨k + 1, _, _, _, by omega, by go_num, ST2, S4⟩
          case measure => simp [intOf]; omega
        · have g0 := hgc (n - 1) (by omega)
          have hy : es[n - 1]? = some (es.getD (n - 1) 0) := by simp [List.getD, show n - 1 < es.length by omega]
          have ST2 := ST.out ((es.getD (n - 1) 0 : Nat) : Int) (.inr ⟨_, by omega, hy, rfl⟩)
          have g2 := hgc n (by omega)
          have g3 := hgf n
          have S5 := (S3.before2 ((es.getD (n - 1) 0 : Nat) : Int)).put n k (by omega)
          clear hgc hgf ST S3 hy S2 I1
          go_wp2_with fail
          go_roundw
          case rel => exact ⟨k + 1, _, _, _, by omega, by go_num, ST2, S5⟩
          case measure => simp [intOf]; omega
    · obtain rfl : mn = k := by omega
      clear hk
      have hmk2 := make43 es.length (by omega)
      by_cases hl0 : es.length ≤ 0
      · have RN : Hid (Plain.LRes (Plain.live ms) ms.length es.length (fun _ => 0)) := by
          have e : es = [] := List.eq_nil_of_length_eq_zero (by omega)
          have h2 : Plain.LInv (Plain.live ms) mn [] bf lev := e ▸ I1
          show Plain.LRes _ _ es.length _
          rw [hm.1, e]
          exact h2.res_nil _
        clear I1
        go_wp2_with fail
        go_ret
        exact ⟨⟨_, _, es.length, fun _ => 0, [], rfl, ⟨by simp; omega, .inl (by omega)⟩, fun i hi => by omega, RN.out⟩, S1.below.alloc (by have := S1.size; omega) _⟩
      · obtain ⟨t, ht⟩ : ∃ t, es.length = t + 1 := ⟨es.length - 1, by omega⟩
        obtain ⟨eo2, ec2, hv2, _, hnr, hgg⟩ := nrow_of_owns S1.ends
        simp only [Value.slice.injEq, true_and] at hv2
        obtain ⟨rfl, rfl⟩ := hv2
        obtain ⟨g, hg, rfl, hgc, hgf⟩ := hgg (by omega)
        have hx0 : es[t]? = some (es.getD t 0) := by simp [List.getD, show t < es.length by omega]
        have g0 := hgc t (by omega)
        obtain ⟨x0, hx00⟩ : ∃ x0, x0 = es.getD t 0 := ⟨_, rfl⟩
        rw [← hx00] at hx0 g0
        have NF : Hid (∀ s, s ≤ t → Plain.node bf x0 s < mn) := fun s hs => (I1.node hx0 s hs).1
        have NL : Hid (∀ s, s < t → bf (Plain.node bf x0 s) = (Plain.node bf x0 (s + 1) : Int)) := fun s hs => (I1.node_link hx0 hs).1
        have RES : Hid (Plain.LRes (Plain.live ms) mn (t + 1) (fun i => Plain.node bf x0 (t - i))) := I1.res ht hx0
        have ROW := rcell_made wr ms (Plain.node bf x0) t
        have S2 := S1.alloc (.cells (madeCells #[.int .i64 0, .int .i64 0] ((t + 1) * 2)) 43)
        have g1 : (wr.alloc (.cells (madeCells #[.int .i64 0, .int .i64 0] ((t + 1) * 2)) 43)).cell? ⟨g, t, none⟩ = some (nv x0) := by
          rw [World.cell?_of_block (w := wr) (Below.heap_alloc wr _ g (World.block_lt_of_cell? wr ⟨g, t, none⟩ g0))]; exact g0
        rw [ht] at hmk2 ⊢
        rw [show ((t + 1 : Nat) : Int) = (t : Int) + 1 by omega] at hmk2
        have htm : t + 1 ≤ mn := by omega
        clear hgg hgc hgf hnr hx00 hx0 I1 hl0 ht hlen hec g0
        go_wp2_with fail
        generalize wr.alloc (.cells (madeCells #[.int .i64 0, .int .i64 0] ((t + 1) * 2)) 43) = w1 at ROW S2 g1 ⊢
        have hbox := cell_of_one S2.box
        have hboxb := S2.box
        have hR : w.heap.size + 2 ≤ wr.heap.size := S1.size
        have hbrow := S2.bef
        have hbel := S2.below
        generalize wr.heap.size = R at ROW hR ⊢
        clear S1 S2 hmk2
        go_quiet (fail)
        go_wp2_with fail
        go_loopw [10, 11] (fun a b wq => ∃ (r : Nat) (y : Int), r ≤ t + 1 ∧ a = .int .i64 ((r : Int) - 1) ∧ b = .int .i64 y ∧ Hid (1 ≤ r → y = (Plain.node bf x0 (t + 1 - r) : Int)) ∧ wq.rowIs R 43 ((t + 1) * 2) (rcell ms (Plain.node bf x0) t r) ∧ wq.heap[w.heap.size]? = some (.cells #[.slice mo mn mc] 35 (0, 0)) ∧ wq.rowIs (w.heap.size + 1) 3 mn (fun x => .int .i64 (if x < mn then bf x else 0)) ∧ Below w.heap.size w wq) (fun a _ _ => (intOf a + 1).toNat)
        case atStart => exact ⟨t + 1, (x0 : Int), Nat.le_refl _, by go_num, rfl, fun _ => by simp [Plain.node], ROW, hboxb, hbrow, below_drewN hbel _⟩
        case round =>
          clear ROW hbox hboxb hbrow hbel g1
          obtain ⟨r, y, hr, rfl, rfl, HY, ROWr, BOXr, BEFr, BELr⟩ := hrel
          by_cases hr0 : r = 0
          · subst hr0
            go_wp2_with fail
            go_ret
            have R2 := RES.out
            rw [← hm.1] at R2
            refine ⟨⟨_, _, t + 1, _, _, rfl, rcell_row ROWr, fun i hi => ?_, R2⟩, BELr⟩
            rw [List.getElem?_map, List.getElem?_range hi]
            have := NF.out (t - i) (by omega)
            simp [List.getD, show Plain.node bf x0 (t - i) < ms.length by rw [hm.1]; exact this]
          · obtain ⟨r', rfl⟩ : ∃ r', r = r' + 1 := ⟨r - 1, by omega⟩
            have hy := HY.out (by omega)
            rw [show t + 1 - (r' + 1) = t - r' by omega] at hy
            subst hy
            have hxm := NF.out (t - r') (by omega)
            obtain ⟨hml, hm2⟩ := hm.below BELr
            rcases hm2 with h0 | ⟨b, off, hmo, hm2⟩
            · omega
            subst hmo
            obtain ⟨x, hx⟩ : ∃ x, x = Plain.node bf x0 (t - r') := ⟨_, rfl⟩
            rw [← hx] at hxm ⊢
            obtain ⟨p, hpk⟩ : ∃ p, ms[x]? = some p := ⟨_, List.getElem?_eq_getElem (by omega)⟩
            obtain ⟨c0, c1⟩ := hm2 x p hpk
            have hbx := BEFr.cell hxm
            rw [if_pos hxm] at hbx
            have hbox := cell_of_one BOXr
            have q0 := ROWr.cell (i := r' * 2) (by omega)
            have q1 := ROWr.cell (i := r' * 2 + 1) (by omega)
            have z0 := ROWr.frozen (r' * 2)
            have z1 := ROWr.frozen (r' * 2 + 1)
            have ROWn := rcell_step ROWr (p := p) (by rw [← hx]; exact hpk)
            have HX : Hid (x = Plain.node bf x0 (t - r')) := hx
            clear hm2 hpk hml ROWr HY hx hr0
            have hRb : ∀ k, k ≠ R → ((wr.setCell ⟨R, r' * 2, none⟩ (.int .i64 p.1)).setCell ⟨R, r' * 2 + 1, none⟩ (.int .i64 p.2)).heap[k]? = wr.heap[k]? := fun k hk => by
              rw [Below.heap_setCell _ _ _ k hk, Below.heap_setCell _ _ _ k hk]
            have BOXn := (hRb w.heap.size (by omega)).trans BOXr
            have BEFn := BEFr.of_block (hRb (w.heap.size + 1) (by omega))
            have BELn := (BELr.setCell (p := ⟨R, r' * 2, none⟩) (show w.heap.size ≤ R by omega) (.int .i64 p.1)).setCell (p := ⟨R, r' * 2 + 1, none⟩) (show w.heap.size ≤ R by omega) (.int .i64 p.2)
            have hbn := BEFn.cell hxm
            rw [if_pos hxm] at hbn
            clear hRb
            go_wp2_with fail
            clear q0 q1 z0 z1 hbx hbox c0 c1 BOXr BEFr BELr
            generalize (wr.setCell ⟨R, r' * 2, none⟩ (.int .i64 p.1)).setCell ⟨R, r' * 2 + 1, none⟩ (.int .i64 p.2) = w2 at ROWn BOXn BEFn BELn hbn ⊢
            go_quiet (fail)
            go_wp2_with fail
            go_roundw
            case rel => exact ⟨r', bf x, by omega, by go_num, rfl, fun h => by
              rw [HX.out, NL.out (t - r') (by omega), show t - r' + 1 = t + 1 - r' by omega], ROWn, BOXn, BEFn, below_drewN BELn _⟩
            case measure => simp [intOf]

end Go.Proofs.Qxb6618312a
