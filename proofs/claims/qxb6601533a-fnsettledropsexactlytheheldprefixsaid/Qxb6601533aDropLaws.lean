/- LAWS FOR fifo.drop: clear at a step of a region that draws; the rows behind it. By an AI agent. -/
import Derived.Test.Qxb6601533aLed
import Derived.Lib.SliceRun
import Derived.RegionTactic
namespace Go.Proofs.Qxb6601533a
open Go.RowKit
set_option linter.unusedVariables false
set_option linter.unusedSimpArgs false

/-- 'clear(s)' AT A STEP OF A REGION THAT DRAWS ITS ORDER. -/
theorem step_clear {P : Program} (w : World) {ops : Array Oper} {o : Oper} {a : Act} {K : Act → World → Prop} {Q : Exit → Act → World → Prop} {E : Prop} (hgd : o.guard = none) (s : Operand) (t : TypeId)
    (ho : o.op = .call { callee := .builtin .clear, args := #[s], argTypes := #[t] }) (v : Value) (hs : a.eval s = v) (w' : World) (hrun : ∀ ty, (Builtin.clear_ #[t] ty #[v]).run P w = .ok (.tuple #[]) w')
    (h : K (a.put o.dst (.tuple #[])) w') : if Region.wanted o (yielded ops a.tmps) = true then Oper.wp P o a w K Q else E := by
  have hw : Region.wanted o (yielded ops a.tmps) = true := by simp [Region.wanted, hgd]
  rw [if_pos hw]
  unfold Oper.wp execOp
  simp only [ho, resolve, invoke, builtin, Sem.run_bind, Sem.run_pure, Result.andThen_ok, List.map_toArray, List.map_cons, List.map_nil, hs, hrun]
  exact h

theorem zero91 : ∀ w, (zeroValue 91).run Try.prog w = .ok (.pointer none) w := fun w => by kernel_rfl

theorem clear_some (w : World) (b n c : Nat) (hn : 0 < n) (hc : ∀ j, j < n → (w.cell? ⟨b, 0 + j, none⟩).isSome = true) (hf : ∀ j, j < n → w.frozen? ⟨b, 0 + j, none⟩ = false) (ty : TypeId) :
    (Builtin.clear_ #[88] ty #[.slice (some ⟨b, 0, none⟩) n c]).run Try.prog w = .ok (.tuple #[]) (w.setCells b 0 (List.replicate n (.pointer none))) :=
  Lib.run_clear_slice w 88 91 ty (.pointer none) Try.underlying88 zero91 rfl rfl b 0 n c hn hc hf

theorem clear_none (w : World) (ad : Option Addr) (c : Nat) (ty : TypeId) : (Builtin.clear_ #[88] ty #[.slice ad 0 c]).run Try.prog w = .ok (.tuple #[]) w := by
  cases ad <;> simp [Builtin.clear_, run_underlying Try.underlying88, zero91, Builtin.zeroCells, storeCells]

/-- What is owned behind stores into its own row. -/
theorem own_setCells {B e g len cap : Nat} (vs : List Value) : ∀ (o : Nat) (w : World) (xs : List Value), w.ownsRow B e 1 (.slice (some ⟨g, 0, none⟩) len cap) len xs →
    ∃ ys, (w.setCells g o vs).ownsRow B e 1 (.slice (some ⟨g, 0, none⟩) len cap) len ys ∧ (∀ q, q < o ∨ o + vs.length ≤ q → ys[q]? = xs[q]?) ∧ w.grownBy (w.setCells g o vs) (some g) ∧ (w.setCells g o vs).heap.size = w.heap.size := by
  induction vs with
  | nil => intro o w xs h; exact ⟨xs, h, fun _ _ => rfl, World.grownBy.refl _ _, rfl⟩
  | cons v r ih =>
    intro o w xs h
    obtain ⟨h1, h2⟩ := h.stored o v
    obtain ⟨ys, h3, h4, h5, h6⟩ := ih (o + 1) (w.setCell ⟨g, o, none⟩ v) (xs.set o v) h1
    refine ⟨ys, h3, ?_, grownBy_trans h2 h5, by rw [World.setCells, h6]; simp⟩
    intro q hq
    simp only [List.length_cons] at hq
    rw [h4 q (by omega), List.getElem?_set_ne (by omega)]

theorem own_zero {w : World} {B e g len cap : Nat} {xs : List Value} (h : w.ownsRow B e 1 (.slice (some ⟨g, 0, none⟩) len cap) len xs) : w.ownsRow B e 1 (.slice (some ⟨g, 0, none⟩) 0 cap) 0 [] := by
  rcases h.2 with ⟨h', _⟩ | ⟨g', cap', cur, h', hb, hg, hnc, hcm, hs, ht⟩
  · simp at h'
  · simp only [Value.slice.injEq, Option.some.injEq, Addr.mk.injEq, and_true, true_and] at h'
    obtain ⟨rfl, rfl⟩ := h'
    exact ⟨rfl, .inr ⟨g, cap, cur, rfl, hb, hg, by omega, hcm, hs, by simp⟩⟩


theorem Turn.setCell {w W : World} {B j o : Nat} {ob : Option Nat} {v : Value} (h : Turn w W B j ob) (ho : o = j * 2 ∨ o = j * 2 + 1) : Turn w (W.setCell ⟨B + 1, o, none⟩ v) B j ob := by
  refine ⟨h.os, h.tape, h.output, by simpa using h.size, ?_, ?_, ?_⟩
  · intro b hb hne hnb
    rw [heap_setCell_other W ⟨B + 1, o, none⟩ b v (by simpa using hne)]
    exact h.block b hb hne hnb
  · intro q h1 h2
    rw [World.cell?_setCell_other (h := by intro e; simp at e <;> omega)]
    exact h.cell q h1 h2
  · intro cur hc
    obtain ⟨cur', e1, e2⟩ := h.blk cur hc
    exact ⟨_, heap_setCell_same W (B + 1) o cur' 90 v e1, by simp [e2]⟩

theorem Turn.drewN {w W : World} {B j : Nat} {ob : Option Nat} (h : Turn w W B j ob) (q : Nat) : Turn w (W.drewN q) B j ob := ⟨h.os, h.tape, h.output, h.size, h.block, h.cell, h.blk⟩

/-- A message lies in no row's array and not among the fifos. -/
theorem Msg.turn {w W : World} {B j m g : Nat} {s : Int} (h : Msg w m s) (ht : Turn w W B j (some g)) (hm : B + 2 ≤ m) (hg : ∃ cur, w.heap[g]? = some (.cells cur 91 (0, 0))) : Msg W m s := by
  refine h.keep ?_
  obtain ⟨cur, h1, _⟩ := h
  refine ht.block m (heap_lt h1) (by omega) ?_
  intro e
  obtain ⟨cur2, h2⟩ := hg
  obtain rfl : m = g := by simpa using e
  rw [h2] at h1
  simp at h1

end Go.Proofs.Qxb6601533a
