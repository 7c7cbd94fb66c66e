/- THE PROOF OF 'Rows.FnSettleDropsExactlyTheHeldPrefixSaid'. By an AI agent. -/
import Derived.Test.Qxb6601533aRows
import Derived.WalkKit
import Derived.ProofKit
import Derived.OpenShut
import Derived.ShutString
import Derived.ChangeOld
import Derived.Below
import Derived.Deep.Matrix
import Derived.Test.Qxb6601533aLaw
namespace Go.Proofs.Qxb6601533a.fnSettleDropsExactlyTheHeldPrefix
open Go.ChangeShapes Go.WideShapes Go.ChangeAt Go.RowKit
set_option linter.unusedVariables false
set_option linter.unusedSimpArgs false

theorem own : ownKnob Try.prog.godebug = none := by kernel_rfl
theorem laidOut : laidOutB Try.prog = true := by kernel_rfl

theorem wf_u64 {n : Int} (h : (Lit.int .u64 n).wf = true) : 0 ≤ n ∧ n ≤ 18446744073709551615 := by
  simp only [Lit.wf, IntKind.min, IntKind.max, IntKind.signed, IntKind.bits, Bool.and_eq_true, decide_eq_true_eq] at h
  exact ⟨by have := h.1; simpa using this, by have := h.2; simpa using this⟩

/-- A row that came in, read as a list. -/
theorem came_row {w : World} {a : Option Addr} {len cap : Nat} {zs : List Int} (hl : len ≤ cap) (hz : zs.length = cap) (hn : a = none → cap = 0) (hc : ∀ x, a = some x → ∀ c, c < cap → w.cell? (x.add c) = some (.int .u64 (zs.getD c 0)))
    (hw : ∀ n ∈ zs, (Lit.int .u64 n).wf = true) : Came w a len (zs.take len) := by
  refine ⟨by rw [List.length_take]; omega, fun h => by have := hn h; omega, ?_, fun n h => wf_u64 (hw n (List.mem_of_mem_take h))⟩
  intro x hx i hi
  rw [hc x hx i (by omega)]
  simp [List.getD, hi]

set_option maxRecDepth 100000 in
theorem lifted (os : Os) (started : os.Started) (H : Type) (enc : TypeId × Value → H) :
    ReturnsInHanded {} Try.checked os 5 .any (Rows.fnSettleDropsExactlyTheHeldPrefixSpec.pre6 enc Try.prog Try.f5 Rows.fnSettleDropsExactlyTheHeldPrefixRow.domain false) (Rows.fnSettleDropsExactlyTheHeldPrefixSpec.post enc Try.prog Try.f5 false true false false) := by
  refine returnsInHanded_of_change (C := Try.checked) own started (by kernel_rfl) Try.func5
    (ChangeSpec.witness6 (enc := enc) (C := Try.checked) false ⟨#[], #[.int .i64 0, .slice none 0 0, .slice none 0 0, .slice none 0 0], []⟩ 8 (by kernel_rfl) (by kernel_rfl) (by kernel_rfl) (by kernel_rfl)) ?_
  intro W base args ds gs before hval0 hW hcnd _
  have hval : ∀ (j : Nat) t v, Try.f5.params[j]? = some t → args[j]? = some v → Value.okWide Try.prog W .any base t v := hval0
  have hW' := hW
  obtain ⟨p, q, hA0, hV, rfl, hfz, hnd⟩ := hW
  have hA : DataW.TrodAll enc Try.prog W 0 (fun _ => true) true Try.f5.params.toList args.toList ds p := hA0
  rw [Try.params5] at hA hval
  obtain ⟨v0, vs0, d0, ds0, p0, q0, hargs, rfl, rfl, h0, r0⟩ := trodAll_cons hA
  obtain ⟨v1, vs1, d1, ds1, p1, q1, rfl, rfl, rfl, h1, r1⟩ := trodAll_cons r0
  obtain ⟨v2, vs2, d2, ds2, p2, q2, rfl, rfl, rfl, h2, r2⟩ := trodAll_cons r1
  obtain ⟨v3, vs3, d3, ds3, p3, q3, rfl, rfl, rfl, h3, r3⟩ := trodAll_cons r2
  obtain ⟨rfl, rfl, rfl⟩ := trodAll_nil r3
  obtain rfl : args = #[v0, v1, v2, v3] := by cases args; simp_all
  obtain ⟨rfl, rfl⟩ := trodVars_none hV
  obtain ⟨a0, rfl, rfl, rfl, w0⟩ := open_int Try.underlying3 (hval 0 3 v0 rfl rfl) h0
  obtain ⟨a1, len1, cap1, rfl⟩ := okWide_slice Try.underlying54 (hval 1 54 v1 rfl rfl)
  have k1 := h1
  have lt1 : ∀ x ∈ p1, x.block < W.heap.size := by obtain ⟨m, hm⟩ := k1; exact DataW.trod_lt m _ _ _ hm
  obtain ⟨last, w1⟩ : ∃ xs, Came W a1 len1 xs := by
    obtain ⟨fuel, hf⟩ := h1
    rcases open_ints Try.underlying54 Try.underlying22 (by kernel_rfl) hf with ⟨hcs, _⟩ | ⟨x, l, c, zs, hcs, _, hl, hm, hz, _, hcell, hwz⟩
    · simp [Value.cells] at hcs
      obtain ⟨rfl, rfl, rfl⟩ := hcs
      exact ⟨[], rfl, fun _ => rfl, (fun x hx => by cases hx), fun n hn => by cases hn⟩
    · simp [Value.cells] at hcs
      obtain ⟨rfl, rfl, rfl⟩ := hcs
      have hz' : zs.length = cap1 := by simpa using hz
      exact ⟨_, came_row hl hz' (fun h => by cases h) (fun y hy c hc => by obtain rfl := Option.some.inj hy; exact hcell c (by omega)) hwz⟩
  have rows_in : ∀ (v : Value) (d : DataW H) (pl : List MemPlace) (a : Option Addr) (len cap : Nat), v = .slice a len cap → (∃ fuel, DataW.trod enc Try.prog W 0 (fun _ => true) true fuel 55 v.cells.toList = some (d, pl)) → ∃ rows, CameM W a len rows := by
    rintro v d pl a len cap rfl ⟨fuel, hf⟩
    rcases Go.Deep.open_int_rows Try.underlying55 Try.underlying54 Try.underlying22 (by kernel_rfl) (by kernel_rfl) hf with ⟨hcs, _⟩ | ⟨x, l, c, A, L, C, Z, hcs, _, hl, hm, _, hrow⟩
    · simp [Value.cells] at hcs
      obtain ⟨rfl, rfl, rfl⟩ := hcs
      exact ⟨[], rfl, fun _ => rfl, fun x hx => by cases hx⟩
    · simp [Value.cells] at hcs
      obtain ⟨rfl, rfl, rfl⟩ := hcs
      refine ⟨(List.range len).map fun r => (Z r).take (L r), by simp, (fun h => by cases h), ?_⟩
      intro y hy r hr
      obtain rfl := Option.some.inj hy
      obtain ⟨e1, e2, e3, e4, e5, e6, e7⟩ := hrow r (by omega)
      refine ⟨A r, L r, C r, e1, ?_⟩
      rw [range_getD _ _ _ hr]
      exact came_row e2 e4 e6 (fun z hz => (e7 z hz).2) e5
  obtain ⟨a2, len2, cap2, rfl⟩ := okWide_slice Try.underlying55 (hval 2 55 v2 rfl rfl)
  have k2 := h2
  have lt2 : ∀ x ∈ p2, x.block < W.heap.size := by obtain ⟨m, hm⟩ := k2; exact DataW.trod_lt m _ _ _ hm
  obtain ⟨held, w2⟩ := rows_in _ _ _ a2 len2 cap2 rfl h2
  obtain ⟨a3, len3, cap3, rfl⟩ := okWide_slice Try.underlying55 (hval 3 55 v3 rfl rfl)
  have k3 := h3
  have lt3 : ∀ x ∈ p3, x.block < W.heap.size := by obtain ⟨m, hm⟩ := k3; exact DataW.trod_lt m _ _ _ hm
  obtain ⟨kept, w3⟩ := rows_in _ _ _ a3 len3 cap3 rfl h3
  clear hA0 hval0
  refine (law_any a0 a1 a2 a3 len1 cap1 len2 cap2 len3 cap3 last held kept W w1 w2 w3).mono fun e W' ⟨he, bel⟩ => ?_
  subst he
  exact ⟨_, rfl, _, _, _, [], _, [], hW', trodAll_mk1 (shut_bool Try.underlying4 _), (trodAll_cons_mk (shut_int Try.underlying3 w0) (trodAll_cons_mk (Below.trod laidOut (by kernel_rfl) (of_decide_eq_true (by kernel_rfl)) k1 bel lt1) (trodAll_cons_mk (Below.trod laidOut (by kernel_rfl) (of_decide_eq_true (by kernel_rfl)) k2 bel lt2) (trodAll_cons_mk (Below.trod laidOut (by kernel_rfl) (of_decide_eq_true (by kernel_rfl)) k3 bel lt3) trodAll_mk0)))), rfl, bel.frame _, fun h => by cases h⟩

theorem over : Rows.fnSettleDropsExactlyTheHeldPrefixRow.holds Try.pinned (OpenSpec.ofChange Rows.fnSettleDropsExactlyTheHeldPrefixSpec) :=
  OpenClaim.holds_of_wide 5 Try.f5 rfl rfl rfl rfl rfl rfl rfl ⟨rfl, rfl, rfl, rfl, rfl⟩ rfl rfl rfl rfl rfl (by kernel_rfl) Try.func5 (by kernel_rfl)
    (of_decide_eq_true (by kernel_rfl)) (by unfold Func.isWrapper; first | (rw [if_pos (by decide +kernel)]; kernel_rfl) | (rw [if_neg (by decide +kernel)]; exact ⟨rfl, rfl⟩))
    (fun os started H enc _ => lifted os started H enc)

/-- ████ THE STATEMENT ████ -/
theorem proved : Rows.FnSettleDropsExactlyTheHeldPrefixSaid := over
#print axioms proved
end Go.Proofs.Qxb6601533a.fnSettleDropsExactlyTheHeldPrefix
