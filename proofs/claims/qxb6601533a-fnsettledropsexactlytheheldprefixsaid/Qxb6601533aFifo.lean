/- THE WALKS OF fifo.all, fifo.drop. By an AI agent. -/
import Derived.Test.Qxb6601533aDropLaws
import Derived.Deep.QuietTactic
import Derived.BigQuiet
import Derived.Deep.RegionHeld3
import Derived.Deep.DrawnRows
namespace Go.Proofs.Qxb6601533a
open Go.RowKit
set_option linter.unusedVariables false
set_option linter.unusedSimpArgs false
attribute [local go_sem ↓] Go.wp_at_zero Go.wp_at_succ

/-- A slice of pointers that reads as the Seqs xs. -/
def PtrRow (w : World) (ao : Option Addr) (xs : List Int) : Prop := 0 < xs.length → ∃ b o, ao = some ⟨b, o, none⟩ ∧ ∀ p, p < xs.length → ∃ m, w.cell? ⟨b, o + p, none⟩ = some (.pointer (some ⟨m, 0, none⟩)) ∧ Msg w m (xs.getD p 0)

theorem all_any (B j h : Nat) (xs : List Int) (w : World) (hr : Row w B j xs h) (hl : xs.length ≤ 1048576) (hh : h ≤ 1048576) :
    Calls Try.prog 44 #[.pointer (some ⟨B + 1, j * 2, none⟩)] w fun e w' => ∃ ao c, e = .returned (.slice ao xs.length c) ∧ PtrRow w ao xs ∧ ∃ nq, w' = w.drewN nq := by
  obtain ⟨v, len, ptrs, c1, c2, ho, hlen, hp⟩ := hr
  rcases ho.2 with ⟨rfl, hz⟩ | ⟨g, cap, cur, rfl, hgB, hg, hnc, _⟩
  · have hx : xs.length = 0 := by omega
    obtain rfl : h = 0 := by omega
    have HX := hid hx
    clear ho hp hlen hx
    go_enter Try.func44, Try.ntmps44
    go_wp2
    go_quiet (fail)
    go_wp2
    go_ret
    exact ⟨none, 0, by rw [HX.out]; rfl, fun h => by have := HX.out; omega, _, rfl⟩
  · have HL := hid hlen
    have HP : Hid (PtrRow w (if cap = h then some ⟨g, 0, none⟩ else some ⟨g, h, none⟩) xs) := by
      intro hpos
      refine ⟨g, h, by rw [if_neg (by omega)], fun p hp1 => ?_⟩
      obtain ⟨m, e1, _, e3⟩ := hp p hp1
      exact ⟨m, by rw [ho.cellAt (h + p) (by omega)]; exact e1, e3⟩
    have b1 : (0 : Int) ≤ (h : Int) := by omega
    have b2 : (h : Int) ≤ (len : Int) := by omega
    have b3 : (len : Int) ≤ (cap : Int) := by omega
    clear ho hp hlen hg
    by_cases hce : cap = h
    · rw [if_pos hce] at HP
      go_enter Try.func44, Try.ntmps44
      go_wp2
      go_quiet (fail)
      go_wp2
      go_ret
      refine ⟨_, 0, ?_, HP.out, _, rfl⟩
      have e : len - h = xs.length := by have := HL.out; omega
      rw [← e]
      rfl
    · rw [if_neg hce] at HP
      go_enter Try.func44, Try.ntmps44
      go_wp2
      go_quiet (fail)
      go_wp2
      go_ret
      refine ⟨_, cap - h, ?_, HP.out, _, rfl⟩
      have e : len - h = xs.length := by have := HL.out; omega
      rw [← e]
      rfl

/-- What a drop does: the first n Seqs go. -/
def Dropped (w w' : World) (B j n : Nat) (xs : List Int) : Prop :=
  ∃ h ob, Row w' B j (xs.drop n) h ∧ h ≤ xs.length ∧ Turn w w' B j ob ∧ (∀ v, w.cell? ⟨B + 1, j * 2, none⟩ = some v → v.ownBlock = ob) ∧ (∀ v', w'.cell? ⟨B + 1, j * 2, none⟩ = some v' → v'.ownBlock = ob)

theorem drop_close {w W' : World} {B j n len cap g h len' : Nat} {xs : List Int} {ptrs zs : List Value} (c1 : w.cell? ⟨B + 1, j * 2, none⟩ = some (.slice (some ⟨g, 0, none⟩) len cap)) (HO : w.ownsRow (B + 2) 91 1 (.slice (some ⟨g, 0, none⟩) len cap) len ptrs)
    (HP : ∀ p, p < xs.length → ∃ m, ptrs[0 + p]? = some (.pointer (some ⟨m, 0, none⟩)) ∧ B + 2 ≤ m ∧ Msg w m (xs.getD p 0)) (hh : h ≤ xs.length) (T : Turn w W' B j (some g))
    (d1 : W'.cell? ⟨B + 1, j * 2, none⟩ = some (.slice (some ⟨g, 0, none⟩) len' cap)) (d2 : W'.cell? ⟨B + 1, j * 2 + 1, none⟩ = some (.int .i64 h)) (d3 : W'.ownsRow (B + 2) 91 1 (.slice (some ⟨g, 0, none⟩) len' cap) len' zs) (d4 : len' = h + (xs.drop n).length)
    (d5 : ∀ p, p < (xs.drop n).length → zs[h + p]? = ptrs[n + p]?) : Dropped w W' B j n xs := by
  refine ⟨h, some g, ⟨_, len', zs, d1, d2, d3, d4, ?_⟩, hh, T, ?_, ?_⟩
  · intro p hp
    have hl : (xs.drop n).length = xs.length - n := List.length_drop
    obtain ⟨m, e1, e2, e3⟩ := HP (n + p) (by omega)
    refine ⟨m, by rw [d5 p hp, ← e1, Nat.zero_add], e2, ?_⟩
    have e4 : (xs.drop n).getD p 0 = xs.getD (n + p) 0 := by simp [List.getD]
    rw [e4]
    exact e3.turn T e2 (own_type HO rfl)
  · intro v hv
    rw [c1] at hv
    obtain rfl := Option.some.inj hv
    rfl
  · intro v hv
    rw [d1] at hv
    obtain rfl := Option.some.inj hv
    rfl

set_option maxHeartbeats 2000000 in
theorem drop_any (B j n : Nat) (xs : List Int) (w : World) (hr : Row w B j xs 0) (hblk : ∃ cur : Array Value, w.heap[B + 1]? = some (.cells cur 90 (0, 0))) (hl : xs.length ≤ 1048576) (hpos : 0 < xs.length) (hn : n ≤ xs.length) :
    Calls Try.prog 48 #[.pointer (some ⟨B + 1, j * 2, none⟩), .int .i64 n] w fun e w' => e = .returned (.tuple #[]) ∧ Dropped w w' B j n xs := by
  obtain ⟨v, len, ptrs, c1, c2, ho, hlen, hp⟩ := hr
  obtain ⟨curK, hK⟩ := hblk
  have f1 : w.frozen? ⟨B + 1, j * 2, none⟩ = false := frozen_of_row _ _ _ _ _ hK
  have f2 : w.frozen? ⟨B + 1, j * 2 + 1, none⟩ = false := frozen_of_row _ _ _ _ _ hK
  rcases ho.2 with ⟨rfl, hz⟩ | ⟨g, cap, cur, rfl, hgB, hg, hnc, _⟩
  · omega
  have HL := hid hlen
  have b1 : (0 : Int) ≤ (n : Int) := by omega
  have b2 : (n : Int) ≤ (len : Int) := by omega
  have b3 : (len : Int) ≤ (cap : Int) := by omega
  have HO := hid ho
  have HP := hid hp
  have HK := hid hK
  clear ho hp hg hlen hK
  obtain ⟨W, hWd⟩ : ∃ W, W = w.drew.setCells g 0 (List.replicate n (.pointer none)) := ⟨_, rfl⟩
  obtain ⟨ys, hy1, hy2, hy3, hy4⟩ := own_setCells (List.replicate n (.pointer none)) 0 w.drew ptrs HO.out.drew
  rw [← hWd] at hy1 hy3 hy4
  have hrun : Hid (∀ ty, (Builtin.clear_ #[88] ty #[.slice (some ⟨g, 0, none⟩) n cap]).run Try.prog w.drew = .ok (.tuple #[]) W) := by
    intro ty
    by_cases hn0 : n = 0
    · subst hn0
      rw [clear_none, hWd]
      rfl
    · rw [clear_some w.drew g n cap (by omega) ?_ ?_, hWd]
      · intro q hq
        rw [Nat.zero_add, HO.out.drew.cellAt q (by omega)]
        have : q < ptrs.length := by have := HO.out.1; omega
        simp [this]
      · intro q hq
        exact HO.out.drew.frozenAt _
  have hKb : W.heap[B + 1]? = w.heap[B + 1]? := hy3.block (B + 1) (by have := heap_lt HK.out; exact this) (by simp; omega)
  have kc : ∀ o, W.cell? ⟨B + 1, o, none⟩ = w.cell? ⟨B + 1, o, none⟩ := fun o => World.cell?_of_block hKb
  have kW1 : W.cell? ⟨B + 1, j * 2, none⟩ = some (.slice (some ⟨g, 0, none⟩) len cap) := (kc _).trans c1
  have kW2 : W.cell? ⟨B + 1, j * 2 + 1, none⟩ = some (.int .i64 0) := (kc _).trans c2
  have fW1 : W.frozen? ⟨B + 1, j * 2, none⟩ = false := (World.frozen?_of_block hKb).trans f1
  have fW2 : W.frozen? ⟨B + 1, j * 2 + 1, none⟩ = false := (World.frozen?_of_block hKb).trans f2
  have Y1 := hid hy1
  have Y2 := hid hy2
  have Y3 := hid hy3
  have Y4 := hid hy4
  have KB := hid hKb
  have KC := hid kc
  have hw1 : IntKind.i64.wrap (n : Int) = (n : Int) := by rw [IntKind.wrap_i64]; omega
  have b4 : (n : Int) ≤ (cap : Int) := by omega
  have b5 : ¬ cap = 0 := by have := HL.out; omega
  have hlen1 : len ≤ 1048576 := by have := HL.out; omega
  clear hWd hy1 hy2 hy3 hy4 hKb kc
  have T0 : Hid (Turn w W B j (some g)) := by
    refine ⟨Y3.out.os, Y3.out.tape, Y3.out.output, Y3.out.size, ?_, fun o _ _ => KC.out o, ?_⟩
    · intro b hb _ hnb
      exact Y3.out.block b hb hnb
    · intro cu hcu
      exact ⟨cu, by rw [KB.out]; exact hcu, rfl⟩
  have x1 : (W.setCell ⟨B + 1, j * 2 + 1, none⟩ (.int .i64 n)).cell? ⟨B + 1, j * 2, none⟩ = some (.slice (some ⟨g, 0, none⟩) len cap) := by
    rw [World.cell?_setCell_other (h := by simp)]; exact kW1
  have x2 : (W.setCell ⟨B + 1, j * 2 + 1, none⟩ (.int .i64 n)).cell? ⟨B + 1, j * 2 + 1, none⟩ = some (.int .i64 n) := World.cell?_setCell_same (h := kW2) ..
  have hgK : g ≠ B + 1 := by omega
  have X1 := hid x1
  have X2 := hid x2
  by_cases hne : n = len
  · have t1 : ((n : Int) == (len : Int)) = true := by rw [beq_iff_eq]; omega
    have HN := hid hne
    clear hne
    go_enter Try.func48, Try.ntmps48
    go_wp2_with fail
    go_region_held3 (fun w' => w'.cell? ⟨B + 1, j * 2, none⟩ = some (.slice (some ⟨g, 0, none⟩) len cap) ∧ w'.cell? ⟨B + 1, j * 2 + 1, none⟩ = some (.int .i64 0))
      (go_keep)
      ((refine step_clear _ (by rfl) _ _ (by rfl) _ (by rfl) W hrun.out ?_))
    go_wp2
    go_quiet (fail)
    go_wp2
    go_end0
    refine ⟨rfl, drop_close (h := 0) (len' := 0) (zs := []) c1 HO.out HP.out (Nat.zero_le _) ((((T0.out.setCell (.inr rfl)).drewN _).setCell (.inl rfl)).setCell (.inr rfl)) ?_ ?_ ?_ ?_ ?_⟩
    · rw [World.cell?_setCell_other (h := by simp)]
      exact World.cell?_setCell_same (h := X1.out) ..
    · exact World.cell?_setCell_same (h := (World.cell?_setCell_other (h := by simp) ..).trans X2.out) ..
    · refine own_keep (own_zero Y1.out) (fun k hk => ?_)
      have e : g = k := by simpa [Value.ownBlock] using hk
      have hk2 : k ≠ B + 1 := by omega
      rw [heap_setCell_other _ _ k _ (by exact hk2), heap_setCell_other _ _ k _ (by exact hk2)]
      exact heap_setCell_other W _ k _ (by exact hk2)
    · have h1 := HL.out; have h2 := HN.out; rw [List.length_drop]; omega
    · intro p hp
      have h1 := HL.out; have h2 := HN.out
      rw [List.length_drop] at hp; omega
  · have t1 : ((n : Int) == (len : Int)) = false := by rw [beq_eq_false_iff_ne]; omega
    go_enter Try.func48, Try.ntmps48
    go_wp2_with fail
    go_region_held3 (fun w' => w'.cell? ⟨B + 1, j * 2, none⟩ = some (.slice (some ⟨g, 0, none⟩) len cap) ∧ w'.cell? ⟨B + 1, j * 2 + 1, none⟩ = some (.int .i64 0))
      (go_keep)
      ((refine step_clear _ (by rfl) _ _ (by rfl) _ (by rfl) W hrun.out ?_))
    go_wp2
    go_quiet (fail)
    go_wp2
    go_end0
    refine ⟨rfl, drop_close (h := n) (len' := len) (zs := ys) c1 HO.out HP.out hn ((T0.out.setCell (.inr rfl)).drewN _) X1.out X2.out ?_ ?_ ?_⟩
    · exact own_keep Y1.out (fun k hk => heap_setCell_other W _ k _ (by
        have e : g = k := by simpa [Value.ownBlock] using hk
        show k ≠ B + 1
        omega))
    · have := HL.out; rw [List.length_drop]; omega
    · intro p hp
      exact Y2.out (n + p) (.inr (by simp))

end Go.Proofs.Qxb6601533a
