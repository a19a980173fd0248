import Derived.Test.Qxb6618312aMaps
import Derived.Maps.OwnOps
namespace Go.Proofs.Qxb6618312a
open Go.RowKit Go.Maps

/-- The map's datum D tells, for each identity, a place of it among zs. -/
structure Indexed (D : DataW Unit) (zs : List Zid) : Prop where
  yes : ∀ z, OkZ z → Maps.has D (kl z) = true → ∃ i : Nat, zs[i]? = some z ∧ D.atKey (kl z) (.lit (.int .i64 0)) = .lit (.int .i64 (i : Int))
  no : ∀ z, OkZ z → Maps.has D (kl z) = false → z ∉ zs

/-- What index says. -/
def RetIdx (zs : List Zid) (v : Zid) (e : Ending) : Prop :=
  ∃ r ok, e = .returned (.tuple #[.int .i64 r, .bool ok]) ∧ (ok = true → ∃ i : Nat, r = i ∧ zs[i]? = some v) ∧ (ok = false → v ∉ zs)

/-- The field 'at': nil, or a map that tells the places. -/
def AtMap (w : World) (m : Option Nat) (zs : List Zid) : Prop :=
  m = none ∨ ∃ b n D, m = some b ∧ w.ownsMap Try.prog 31 (plainElem Try.prog 3) b n D ∧ Indexed D zs

theorem owns_below_map {w w' : World} {b n : Nat} {D : DataW Unit} (h : w.ownsMap Try.prog 31 (plainElem Try.prog 3) b n D) (hb : Below w.heap.size w w') : w'.ownsMap Try.prog 31 (plainElem Try.prog 3) b n D := by
  have hlt := h.lt
  obtain ⟨es, clock, hbl, F, hs, hD⟩ := h
  exact ⟨es, clock, (hb.block b hlt).trans hbl, F, hs, hD⟩

theorem AtMap.below {w w' : World} {m : Option Nat} {zs : List Zid} (h : AtMap w m zs) (hb : Below w.heap.size w w') : AtMap w' m zs := by
  rcases h with h | ⟨b, n, D, e, ho, hi⟩
  · exact .inl h
  · exact .inr ⟨b, n, D, e, owns_below_map ho hb, hi⟩

set_option maxHeartbeats 400000 in
theorem keyedIndex_any (lo : Option Addr) (ln lc : Nat) (m : Option Nat) (kd : Bool) (v : Zid) (zs : List Zid) (w : World) (hz : ZRow w lo ln zs) (hm : AtMap w m zs) (hv : OkZ v) (hn : ln ≤ 1099511627776) :
    Calls Try.prog 12 #[.agg #[.slice lo ln lc, .map m, .bool kd], zv v] w fun e w' => RetIdx zs v e ∧ Below w.heap.size w w' := by
  have hnq := fun wx r => run_neq_map_nil (P := Try.prog) wx 33 31 3 r Try.underlying33
  rcases hm with rfl | ⟨b, n, D, rfl, ho, hi⟩
  · have B0 : Below w.heap.size w ((w.alloc (.cells #[.slice lo ln lc, .map none, .bool kd] 38)).alloc (.cells #[.string v.1, .bool v.2.1, .string v.2.2.1, .int .i64 v.2.2.2] 31)) := ((Below.refl _ _).alloc (Nat.le_refl _) _).alloc (by simp) _
    have hz1 := hz.below B0
    go_enter Try.func12, Try.ntmps12
    go_wp2_with fail
    refine (index_any lo ln lc zs v _ hz1 hn).mono ?_
    rintro e w1 ⟨⟨r, rfl, hf⟩, hb⟩
    have HF : Hid (Found zs v r) := hf
    have B1 := B0.trans (hb.mono (by simp; omega))
    clear hf hb B0 hz1
    go_wp2_with fail
    go_ret2
    refine ⟨⟨r, decide (0 ≤ r), rfl, fun h => ?_, fun h => ?_⟩, B1⟩
    · rcases HF.out with h1 | ⟨rfl, _⟩
      · exact h1
      · simp at h
    · rcases HF.out with ⟨i, rfl, _⟩ | ⟨_, h1⟩
      · simp at h
      · exact h1
  · have B0 : Below w.heap.size w ((w.alloc (.cells #[.slice lo ln lc, .map (some b), .bool kd] 38)).alloc (.cells #[.string v.1, .bool v.2.1, .string v.2.2.1, .int .i64 v.2.2.2] 31)) := ((Below.refl _ _).alloc (Nat.le_refl _) _).alloc (by simp) _
    have ho1 := owns_below_map ho B0
    have HI : Hid (Indexed D zs) := hi
    clear hi
    go_enter Try.func12, Try.ntmps12
    go_wp2_with (at_lookup; refine wpList_lookup_own_ok_int _ rfl _ _ 33 rfl 31 3 .i64 law31 Try.underlying33 Try.underlying3 (zero3 _) b n D rfl ho1 _ (kl v) rfl (key31 hv) ?_; intro c hat hwc)
    go_ret2
    refine ⟨⟨c, _, rfl, fun h => ?_, fun h => HI.out.no v hv h⟩, B0⟩
    obtain ⟨i, h1, h2⟩ := HI.out.yes v hv h
    rw [hat] at h2
    simp only [DataW.lit.injEq, Lit.int.injEq, true_and] at h2
    exact ⟨i, h2, h1⟩

end Go.Proofs.Qxb6618312a
