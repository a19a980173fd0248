import Derived.Test.Qxb6618312aTail1
namespace Go.Proofs.Qxb6618312a
open Go.RowKit Go.Maps

set_option maxRecDepth 100000 in
set_option maxHeartbeats 2000000 in
theorem law_any (ao : Option Addr) (n ca : Nat) (x1 x2 : Bool) (bo : Option Addr) (m cb : Nat) (x3 x4 : Bool) (A B : List Zid) (w : World) (ha : ZRow w ao n A) (hb : ZRow w bo m B) (hn : n ≤ maxLen) (hm : m ≤ maxLen)
    (hA : ∀ z ∈ A, OkZ z) (hB : ∀ z ∈ B, OkZ z) :
    Calls Try.prog 3 #[.slice ao n ca, .bool x1, .bool x2, .slice bo m cb, .bool x3, .bool x4] w fun e w' => e = .returned (.bool true) ∧ Below w.heap.size w w' := by
  have HA : Hid (∀ z ∈ A, OkZ z) := hA
  have HB : Hid (∀ z ∈ B, OkZ z) := hB
  clear hA hB
  go_enter Try.func3, Try.ntmps3
  go_wp2_with fail
  refine (bytes_any ao n ca x1 x2 bo m cb x3 x4 A B _ ha hb hn hm (fun z hz => ⟨(HA.out z hz).s0, (HA.out z hz).s1⟩) (fun z hz => ⟨(HB.out z hz).s0, (HB.out z hz).s1⟩)).mono ?_
  rintro e w1 ⟨⟨bb, rfl, hsm⟩, hw⟩
  obtain rfl := hw.symm
  unfold maxLen at hn hm
  cases bb with
  | false =>
    go_wp2_with fail
    go_ret
    exact ⟨rfl, Below.refl _ _⟩
  | true =>
    obtain ⟨hsA, hsB⟩ := hsm rfl
    have HSA : Hid (Small A n) := hsA
    have HSB : Hid (Small B m) := hsB
    clear hsm hsA hsB
    by_cases b0 : 4096 < (n : Int)
    · go_wp2_with fail
      go_ret
      exact ⟨rfl, Below.refl _ _⟩
    have d0 : decide (4096 < (n : Int)) = false := by simpa using b0
    by_cases b1 : 4096 < (m : Int)
    · go_wp2_with fail
      go_ret
      exact ⟨rfl, Below.refl _ _⟩
    have d1 : decide (4096 < (m : Int)) = false := by simpa using b1
    go_wp2_with fail
    clear d0 d1
    have HZA : Hid (ZRow w ao n A) := ha
    have HZB : Hid (ZRow w bo m B) := hb
    obtain ⟨hal, ha1⟩ := ha
    obtain ⟨hbl, hb1⟩ := hb
    have HAL : Hid (A.length = n) := hal
    have HBL : Hid (B.length = m) := hbl
    clear hal hbl
    go_loopw [13, 14] (fun t i wr => ∃ (k : Nat) (tt : Int) (q : Nat), k ≤ n ∧ i = .int .i64 k ∧ t = .int .i64 tt ∧ 0 ≤ tt ∧ tt ≤ 1048576 ∧ wr = w.drewN q) (fun _ i _ => n - (intOf i).toNat)
    case atStart => exact ⟨0, 0, 0, Nat.zero_le _, rfl, rfl, by omega, by omega, rfl⟩
    case round =>
      obtain ⟨k, tt, q, hk, rfl, rfl, ht0, ht1, rfl⟩ := hrel
      by_cases hlt : k < n
      · rcases ha1 with h0 | ⟨b, off, rfl, ha1⟩
        · omega
        obtain ⟨z, hz⟩ : ∃ z, A[k]? = some z := ⟨_, List.getElem?_eq_getElem (by rw [HAL.out]; omega)⟩
        have za := ha1 k z hz
        obtain ⟨q1, q2⟩ := HSA.out k z hlt hz
        have c0 := za.c0
        have c2 := za.c2'
        clear ha1 za hz
        go_wp2_with fail
        go_quiet (fail)
        go_wp2_with fail
        · go_ret
          exact ⟨rfl, below_drewN (Below.refl _ _) _⟩
        · go_roundw
          case rel => exact ⟨k + 1, _, q + nq, by omega, by go_num, rfl, by omega, by omega, rfl⟩
          case measure => simp [intOf]; omega
      · go_wp2_with fail
        clear hlt hk
        go_loopw [13, 15] (fun t i wr => ∃ (k : Nat) (tt : Int) (q : Nat), k ≤ m ∧ i = .int .i64 k ∧ t = .int .i64 tt ∧ 0 ≤ tt ∧ tt ≤ 1048576 ∧ wr = w.drewN q) (fun _ i _ => m - (intOf i).toNat)
        case atStart => exact ⟨0, tt, q, Nat.zero_le _, rfl, rfl, by omega, by omega, rfl⟩
        case round =>
          clear ht0 ht1
          obtain ⟨k2, tt2, q2, hk, rfl, rfl, ht0, ht1, rfl⟩ := hrel
          by_cases hlt : k2 < m
          · rcases hb1 with h0 | ⟨b, off, rfl, hb1⟩
            · omega
            obtain ⟨z, hz⟩ : ∃ z, B[k2]? = some z := ⟨_, List.getElem?_eq_getElem (by rw [HBL.out]; omega)⟩
            have za := hb1 k2 z hz
            obtain ⟨q1, q3⟩ := HSB.out k2 z hlt hz
            have c0 := za.c0
            have c2 := za.c2'
            clear hb1 za hz
            go_wp2_with fail
            go_quiet (fail)
            go_wp2_with fail
            · go_ret
              exact ⟨rfl, below_drewN (Below.refl _ _) _⟩
            · go_roundw
              case rel => exact ⟨k2 + 1, _, q2 + nq, by omega, by go_num, rfl, by omega, by omega, rfl⟩
              case measure => simp [intOf]; omega
          · have hmm := makeMap_hint 26 25 4 Try.underlying26 n
            go_wp2_with fail
            have M0 := World.ownsMap_made (H := Unit) (w.drewN q2) Try.prog 25 (plainElem Try.prog 4)
            have L0 : Below w.heap.size w ((w.drewN q2).alloc (.map #[] 0)) := (below_drewN (Below.refl _ _) q2).alloc (Nat.le_refl _) _
            have D0 := Seen.start A
            have M0' : ((w.drewN q2).alloc (.map #[] 0)).ownsMap Try.prog 25 (plainElem Try.prog 4) w.heap.size 0 (.map [] : DataW Unit) := M0
            generalize (w.drewN q2).alloc (.map #[] 0) = w0 at M0' L0 ⊢
            clear M0 hmm ht0 ht1 hk hlt
            rename_i K hK
            have HK : Hid _ := hK
            clear hK
            go_loopw [17] (fun i wr => ∃ (k : Nat) (D : DataW Unit), k ≤ n ∧ i = .int .i64 k ∧ wr.ownsMap Try.prog 25 (plainElem Try.prog 4) w.heap.size k D ∧ Seen D A k ∧ Below w.heap.size w wr) (fun i _ => n - (intOf i).toNat)
            case atStart => exact ⟨0, _, Nat.zero_le _, rfl, M0', D0, L0⟩
            case round =>
              clear M0' L0 D0
              obtain ⟨k3, D, hk, rfl, hown, hseen, hbel⟩ := hrel
              by_cases hlt : k3 < n
              · rcases ha1 with h0 | ⟨b, off, rfl, ha1⟩
                · omega
                obtain ⟨z, hz⟩ : ∃ z, A[k3]? = some z := ⟨_, List.getElem?_eq_getElem (by rw [HAL.out]; omega)⟩
                have za := (ha1 k3 z hz).of_block (hbel.block b (ha1 k3 z hz).lt)
                obtain ⟨c0, c1, c2, c3⟩ := za
                have hzo := HA.out z (List.mem_of_getElem? hz)
                have HZ : Hid (A[k3]? = some z) := hz
                clear ha1 hz
                by_cases hdup : ∃ i, i < k3 ∧ A[i]? = some z
                · have hat := hseen.hit z hzo hdup
                  clear hdup
                  go_wp2_with (at_lookup; refine wpList_lookup_own_bool _ rfl _ _ 26 rfl 25 4 law25 Try.underlying26 Try.underlying4 (zero4 _) w.heap.size k3 D rfl hown _ (kl z) rfl (key25 hzo) true hat ?_)
                  go_ret
                  exact ⟨rfl, hbel⟩
                · have hat := hseen.miss z hzo hdup
                  have hnx := hseen.next HZ.out hzo hdup
                  clear hdup
                  go_wp2_with (first | (at_lookup; refine wpList_lookup_own_bool _ rfl _ _ 26 rfl 25 4 law25 Try.underlying26 Try.underlying4 (zero4 _) w.heap.size k3 D rfl hown _ (kl z) rfl (key25 hzo) false hat ?_) | (at_mapUpdate; refine wpList_mapUpdate_own _ rfl _ _ _ 26 rfl 25 4 law25 Try.underlying26 _ w.heap.size k3 D rfl hown (by unfold maxLen; omega) _ _ (kl z) rfl rfl (key25 hzo) (.lit (.bool true)) [] (plainElem_bool Try.underlying4 true) ?_; intro w4 hown4 hgrow4))
                  go_roundw
                  case rel => exact ⟨k3 + 1, _, by omega, by go_num, hown4, hnx, hbel.grown hgrow4 hbel.size (fun j hj => by cases hj; exact Nat.le_refl _)⟩
                  case measure => simp [intOf]; omega
              · have HND : Hid A.Nodup := by
                  have e := HAL.out
                  have e2 : k3 = A.length := by omega
                  rw [e2] at hseen
                  exact hseen.apart
                clear hseen hown
                go_wp2_with fail
                exact HK.out _ _ (tail1 ao n ca x1 x2 bo m cb x3 x4 A B w _ HZA.out HZB.out hbel HND.out HA.out HB.out (by omega) (by omega) _ _ _ _ _ _ _ _ _ _ _ _ _ _ _ _ _ _ _ _ _ _ _ _ _ _ _ _ _ _ _ _ _ _ _ _ _ _ _ _ _ _ _ _ _ _ _ _ _ _ _ _ _ _ _ _ _ _ _ _ _ _ _ _ _ _ _ _ _ _ _ _ _ _ _ _ _ _ _ _ _ _ _ _ _ _ _ _ _ _ _ _ _ _ _ _ _ _ _ _ _ _ _ _ _ _ _ _ _ _ _ _ _ _ _ _ _ _ _ _ _ _ _ _ _ _ _ _ _ _ _ _ _ _ _ _ _ _ _ _ _ _ _ _ _ _ _ _ _ _ _ _ _ _ _ _ _ _ _ _ _ _ _ _ _ _ _ _ _ _ _ _ _ _ _ _ _ _ _ _ _ _ _ _ _ _ _ _ _ _ _ _ _ _ _ _ _ _ _ _ _ _ _ _ _ _ _ _ _ _ _ _ _ _ _ _ _ _ _ _ _ _ _ _ _ _ _ _ _ _ _ _ _ _ _ _ _ _ _ _ _ _ _ _ _ _ _ _ _ _ _ _ _ _ _ _ _ _ _ _ _ _ _ _ _ _ _ _ _ _ _ _ _ _ _ _ _ _ _ _ _ _ _)

end Go.Proofs.Qxb6618312a
