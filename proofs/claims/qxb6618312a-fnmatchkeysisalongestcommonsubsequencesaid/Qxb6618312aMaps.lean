import Derived.Test.Qxb6618312aParts
import Derived.Maps.OwnSet
import Derived.DeepKeys4
import Derived.MapViews
namespace Go.Proofs.Qxb6618312a
open Go.RowKit Go.Maps

theorem laidOut : laidOutB Try.prog = true := by kernel_rfl
theorem law25 : Keyed Try.prog 25 := Keyed.of_law (deep_law_laid laidOut (m := 50) (by omega) (of_decide_eq_true (by kernel_rfl)) (by kernel_rfl) (by rw [Try.underlying25]))
theorem law31 : Keyed Try.prog 31 := Keyed.of_law (deep_law_laid laidOut (m := 50) (by omega) (of_decide_eq_true (by kernel_rfl)) (by kernel_rfl) (by rw [Try.underlying31]))

/-- An identity whose strings and number fit their types. -/
structure OkZ (z : Zid) : Prop where
  s0 : z.1.size ≤ maxLen
  s1 : z.2.2.1.size ≤ maxLen
  wf : (Lit.int .i64 z.2.2.2).wf = true

abbrev zv (z : Zid) : Value := .agg #[.string z.1, .bool z.2.1, .string z.2.2.1, .int .i64 z.2.2.2]

/-- What an identity reads as, as a map's key. -/
def kl (z : Zid) : Lit := .string (keyBytes [.string z.1.data.toList, .bool z.2.1, .string z.2.2.1.data.toList, .int .i64 z.2.2.2])

theorem tsize : ∃ m, Try.prog.types.size + 1 = m + 1 + 1 + 1 := by
  have : 2 ≤ Try.prog.types.size := of_decide_eq_true (by kernel_rfl)
  exact ⟨Try.prog.types.size - 2, by omega⟩

theorem Try.cells25 : Try.prog.cellsOf 25 = 4 := by kernel_rfl
theorem Try.cells31 : Try.prog.cellsOf 31 = 4 := by kernel_rfl
theorem Try.cells29 : Try.prog.cellsOf 29 = 2 := by kernel_rfl
theorem Try.cells9 : Try.prog.cellsOf 9 = 1 := by kernel_rfl
theorem Try.cells4 : Try.prog.cellsOf 4 = 1 := by kernel_rfl
theorem Try.cells3 : Try.prog.cellsOf 3 = 1 := by kernel_rfl

theorem key25 {z : Zid} (h : OkZ z) : keyOf Try.prog 25 (zv z) = some (kl z) := by
  have hk : Try.prog.keyType 25 = true := by kernel_rfl
  unfold keyOf
  simp only [Try.underlying25]
  have hf : (zv z).formed Try.prog 25 = true := by
    simp [Value.formed, Try.underlying25, Try.cells25]
  obtain ⟨m, hm⟩ := tsize
  rw [hk, hf, hm]
  simp [Value.cells, Program.keyLits, Try.underlying25, Try.underlying9, Try.underlying4, Try.underlying3, Try.cells25, Try.cells9, Try.cells4, Try.cells3, h.s0, h.s1, h.wf, kl]

theorem lits29 (m : Nat) {a : ByteArray} (b : Bool) (h : a.size ≤ maxLen) : Try.prog.keyLits (m + 1 + 1) 29 [.string a, .bool b] = some [.string a.data.toList, .bool b] := by
  simp [Program.keyLits, Try.underlying29, Try.underlying9, Try.underlying4, Try.cells29, Try.cells9, Try.cells4, h]
theorem lits9 (m : Nat) {a : ByteArray} (h : a.size ≤ maxLen) : Try.prog.keyLits (m + 1) 9 [.string a] = some [.string a.data.toList] := by
  simp [Program.keyLits, Try.underlying9, h]
theorem lits3 (m : Nat) {a : Int} (h : (Lit.int .i64 a).wf = true) : Try.prog.keyLits (m + 1) 3 [.int .i64 a] = some [.int .i64 a] := by
  simp [Program.keyLits, Try.underlying3, h]

theorem key31 {z : Zid} (h : OkZ z) : keyOf Try.prog 31 (zv z) = some (kl z) := by
  have hk : Try.prog.keyType 31 = true := by kernel_rfl
  unfold keyOf
  simp only [Try.underlying31]
  have hf : (zv z).formed Try.prog 31 = true := by
    simp [Value.formed, Try.underlying31, Try.cells31]
  obtain ⟨m, hm⟩ := tsize
  rw [hk, hf, hm]
  unfold Program.keyLits
  simp [Value.cells, Try.underlying31, Try.cells31, Try.cells29, Try.cells9, Try.cells3, lits29 m z.2.1 h.s0, lits9 (m + 1) h.s1, lits3 (m + 1) h.wf, kl]

theorem kl_inj {z z' : Zid} (h : OkZ z) (h' : OkZ z') (e : kl z = kl z') : z = z' := by
  have := law25.inj (key25 h) (e ▸ key25 h')
  simp only [Value.agg.injEq, Array.mk.injEq, List.cons.injEq, Value.string.injEq, Value.bool.injEq, Value.int.injEq, and_true, true_and] at this
  obtain ⟨a, b, c, d⟩ := z
  obtain ⟨a', b', c', d'⟩ := z'
  simp_all

theorem kl_key (z : Zid) : WideAt.IsKeyLit (kl z) := trivial

/-- 'make(map[K]V, n)'. -/
theorem makeMap_hint (t k e : TypeId) (ht : Try.prog.underlying t = some (.map k e)) (n : Nat) (w : World) : (Instr.makeMap t (some (.int .i64 (n : Int)))).run Try.prog w = .ok (.map (some w.heap.size)) (w.alloc (.map #[] 0)) := by
  simp [Instr.makeMap, run_underlying ht, asInt, asIntOf]

theorem zero4 (w : World) : (zeroValue 4).run Try.prog w = .ok (.bool false) w := by kernel_rfl
theorem zero3 (w : World) : (zeroValue 3).run Try.prog w = .ok (.int .i64 0) w := by kernel_rfl

/-- A look-up in a map[K]bool that the call made. -/
theorem wpList_lookup_own_bool {H : Type} {P : Program} (w : World) {ops : Array Oper} {rest : List Oper} {o : Oper} {a : Act} {Q : Exit → Act → World → Prop} (hg : o.guard = none) (m x : Operand) (t : TypeId) (hop : o.op = Op.lookup t m x false)
    (k e : TypeId) (K : Keyed P k) (ht : P.underlying t = some (.map k e)) (he : P.underlying e = some .bool) (hz : (zeroValue e).run P w = .ok (.bool false) w) (b n : Nat) (D : DataW H)
    (hm : a.eval m = .map (some b)) (hown : w.ownsMap P k (plainElem P e) b n D) (key : Value) (kl : Lit) (hx : a.eval x = key) (hkey : keyOf P k key = some kl) (bb : Bool) (hb : D.atKey kl (.lit (.bool false)) = .lit (.bool bb))
    (hK : wpList P ops Q rest (a.put o.dst (.bool bb)) w) :
    wpList P ops Q (o :: rest) a w := by
  refine wpList_plain hg fun K' hK' => ?_
  obtain ⟨v, ps, hrun, hv⟩ := hown.lookup K ht hz (plainElem_bool he false) hkey
  rw [hb] at hv
  have hv' : v = .bool bb := by
    unfold plainElem at hv
    rw [he] at hv
    split at hv
    · simp only [Option.some.injEq, Prod.mk.injEq, DataW.lit.injEq, Lit.bool.injEq] at hv
      rw [hv.1]
    · simp_all
    · simp_all
    · cases hv
  subst hv'
  unfold Oper.wp
  simp [execOp, hop, hm, hx, hrun, Result.andThen]
  exact hK' _ _ hK

end Go.Proofs.Qxb6618312a
