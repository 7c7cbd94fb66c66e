/- THE WALK OF ZZKept. By an AI agent. -/
import Derived.Test.Qxb6601533aKeptLaws
import Derived.Deep.RegionLaw
import Derived.Deep.AppendLies
import Derived.Deep.DrawnRows
namespace Go.Proofs.Qxb6601533a
open Go.RowKit
set_option linter.unusedVariables false
set_option linter.unusedSimpArgs false
attribute [local go_sem ↓] Go.wp_at_zero Go.wp_at_succ

theorem fz1' {W : World} {a : Addr} (x : Obj) (h : W.frozen? a = false) (hl : a.block < W.heap.size) : (W.alloc x).drew.frozen? a = false := by
  show (W.alloc x).frozen? a = false
  rw [World.frozen?_alloc_old (h := by omega)]
  exact h
theorem one_new (W : World) (x : Obj) : (W.alloc x).drew.heap[W.heap.size]? = some x := heap_alloc_new W x
theorem ke1 {W : World} {a : Addr} {v : Value} (x : Obj) (h : W.cell? a = some v) : (W.alloc x).cell? a = some v := by
  have hl := World.block_lt_of_cell? W _ h
  rw [World.cell?_alloc_old (h := by omega)]
  exact h
theorem below_one (W : World) (x : Obj) : Below W.heap.size W (W.alloc x).drew := ((Below.refl W.heap.size W).alloc (Nat.le_refl _) x).drew

/-- Rows below j whole, row j its first p. -/
def outTo (σ : Nat → List Int) (j p : Nat) (i : Nat) : List Int := if i < j then σ i else if i = j then (σ j).take p else []

theorem outTo_snoc {σ : Nat → List Int} {j p : Nat} {s : Int} (i : Nat) (h : p < (σ j).length) (hs : (σ j).getD p 0 = s) :
    (if i = j then outTo σ j p j ++ [s] else outTo σ j p i) = outTo σ j (p + 1) i := by
  unfold outTo
  by_cases e : i = j
  · subst e
    rw [if_pos rfl, if_neg (by omega), if_pos rfl, if_neg (by omega), if_pos rfl, List.take_succ_eq_append_getElem h, ← hs]
    simp only [List.getD_eq_getElem?_getD] at h ⊢
    simp [List.getElem?_eq_getElem h]
  · rw [if_neg e]
    by_cases e2 : i < j
    · rw [if_pos e2, if_pos e2]
    · rw [if_neg e2, if_neg e, if_neg e2, if_neg e]
theorem outTo_next {σ : Nat → List Int} {j p : Nat} (i : Nat) (h : (σ j).length = p) : outTo σ j p i = outTo σ (j + 1) 0 i := by
  unfold outTo
  by_cases e : i < j
  · rw [if_pos e, if_pos (by omega)]
  · by_cases e2 : i = j
    · subst e2
      rw [if_neg e, if_pos rfl, if_pos (by omega), List.take_of_length_le (by omega)]
    · rw [if_neg e, if_neg e2, if_neg (by omega)]
      split <;> simp

set_option maxRecDepth 10000 in
set_option maxHeartbeats 16000000 in
theorem kept_any (B n : Nat) (self : Int) (vl vh : Value) (σ : Nat → List Int) (w : World) (hled : LedB w B self vl vh n) (hrows : Rows' w B n σ (hdAt n)) (hn : n ≤ 65536) (hσ : ∀ j, j < n → (σ j).length ≤ 131072)
    (hr : ∀ j, j < n → ∀ x ∈ σ j, 0 ≤ x ∧ x ≤ 18446744073709551615) :
    Calls Try.prog 33 #[.pointer (some ⟨B, 0, none⟩)] w fun e w' => e = .returned (.slice (some ⟨w.heap.size, 0, none⟩) n n) ∧ CameM w' (some ⟨w.heap.size, 0, none⟩) n ((List.range n).map σ) ∧ Below w.heap.size w w' := by
  obtain ⟨i0, hi, hz0, hz1, hz2⟩ := info_parts info54
  obtain ⟨i1, hi1, hy0, hy1, hy2⟩ := info_parts info22
  have q5 : w.cell? ⟨B, 5, none⟩ = some (.slice (some ⟨B + 1, 0, none⟩) n n) := by rw [cell_of_row _ _ _ _ _ _ hled]; rfl
  have HR := hid hrows
  have HS := hid hσ
  have HX := hid hr
  clear hrows hσ hr hled
  go_enter Try.func33, Try.ntmps33
  go_wp2_with (at_make; refine wpList_make_full _ rfl _ _ 55 rfl w.heap.size 54 i0 (.slice none 0 0) 1 Try.underlying55 hi hz0 hz1 _ _ _ _ n rfl rfl (by omega) (by omega) ?b2 ?b3 (Nat.le_refl _) ?_)
  case b2 => rw [hz2]; omega
  case b3 => unfold maxLen; omega
  intro w0 hown0 hgrow0
  have hB0 : Below w.heap.size w w0 := (Below.refl _ _).grown hgrow0 (Nat.le_refl _) (fun k h => by cases h)
  have Q5 := hid q5
  have q5' := cell_later hB0 q5
  have HO0 := hid hown0
  have HB0 := hid hB0
  clear hown0 hgrow0 hB0 q5
  go_wp2_with fail
  go_loopw [18] (fun sj wr => ∃ j : Nat, j ≤ n ∧ sj = .int .i64 j ∧ Hid (∃ cells, Outs wr w.heap.size n cells (outTo σ j 0) ∧ Below w.heap.size w wr)) (fun sj _ => n - (intOf sj).toNat)
  case atStart => exact ⟨0, by omega, rfl, _, (outs_start HO0.out).congr (fun i _ => by simp [outTo]), HB0.out⟩
  case round =>
    obtain ⟨j, hj, rfl, HC⟩ := hrel
    clear q5' HO0 HB0
    by_cases hlt : j < n
    · have hlt' : (j : Int) < (n : Int) := by omega
      have k5 : wr.cell? ⟨B, 5, none⟩ = some (.slice (some ⟨B + 1, 0, none⟩) n n) := by obtain ⟨_, _, h⟩ := HC.out; exact cell_later h Q5.out
      have HLn := HS.out j hlt
      have AL : Hid (Calls Try.prog 44 #[.pointer (some ⟨B + 1, j * 2, none⟩)] wr fun e w' => ∃ ao c, e = .returned (.slice ao (σ j).length c) ∧ PtrRow w ao (σ j) ∧ ∃ nq, w' = wr.drewN nq) := by
        obtain ⟨h, h1, h2⟩ := HR.out.row j hlt
        obtain ⟨_, _, h3⟩ := HC.out
        exact all_at B j h (σ j) w wr h2 h3 (by omega) (by have := h1.2; omega)
      go_wp2_with fail
      refine AL.out.mono ?_
      rintro e w' ⟨ao, c, rfl, hptr, q, rfl⟩
      have HPt := hid hptr
      have HC0 : Hid (∃ cells, Outs (wr.drewN q) w.heap.size n cells (outTo σ j 0) ∧ Below w.heap.size w (wr.drewN q)) := by
        obtain ⟨cells, h1, h2⟩ := HC.out
        exact ⟨cells, h1.drewN q, below_drewN h2 q⟩
      clear hptr AL HC k5
      go_wp2_with fail
      generalize wr.drewN q = wq at *
      go_loopw [29] (fun sp wr => ∃ p : Nat, p ≤ (σ j).length ∧ sp = .int .i64 p ∧ Hid (∃ cells, Outs wr w.heap.size n cells (outTo σ j p) ∧ Below w.heap.size w wr)) (fun sp _ => (σ j).length - (intOf sp).toNat)
      case atStart => exact ⟨0, by omega, rfl, HC0⟩
      case round =>
        obtain ⟨p, hp, rfl, HP⟩ := hrel
        clear HC0
        by_cases hpl : p < (σ j).length
        · have hpl' : (p : Int) < ((σ j).length : Int) := by omega
          obtain ⟨b4, o4, rfl, hc4⟩ := HPt.out (by omega)
          obtain ⟨m, k10', hmsg⟩ := hc4 p hpl
          obtain ⟨cells, HOu, hbw⟩ := HP.out
          have k10 := cell_later hbw k10'
          have k11 := cell_later hbw hmsg.cell
          obtain ⟨v, hcv, hov⟩ := HOu.row j hlt
          have kv : wr.cell? ⟨w.heap.size, j, none⟩ = some v := by rw [rows_cells HOu.own j hlt]; exact hcv
          have kf : wr.frozen? ⟨w.heap.size, j, none⟩ = false := HOu.own.frozenAt j
          have hul : (outTo σ j p j).length = p := by unfold outTo; rw [if_neg (by omega), if_pos rfl, List.length_take]; omega
          rw [hul] at hov
          have HUL := hid hul
          have HO := hid hov
          have HCv := hid hcv
          have HOU := hid HOu
          have HBw := hid hbw
          have hmw : m < w.heap.size := World.block_lt_of_cell? w _ hmsg.cell
          generalize hs : (σ j).getD p 0 = s at k11
          have HSs := hid hs
          clear hc4 hmsg k10' hov hcv HOu hbw hul hs HP
          obtain ⟨ao, cv, rfl⟩ : ∃ ao c, v = .slice ao p c := by
            rcases HO.out.2 with ⟨rfl, hz⟩ | ⟨g, cap, cur, rfl, _⟩
            · exact ⟨none, 0, by rw [hz]⟩
            · exact ⟨_, _, rfl⟩
          have hsz : w.heap.size < wr.heap.size := (HOU.out.own.lt w.heap.size rfl).2
          have N0 := hid (show (Value.slice ao p cv).ownBlock ≠ some w.heap.size from fun e => by have h1 := (HO.out.lt _ e).1; omega)
          have N1 := hid (show (Value.slice ao p cv).ownBlock ≠ some m from fun e => by have h1 := (HO.out.lt _ e).1; omega)
          have ka : ∀ o, (wr.alloc o).cell? ⟨w.heap.size, j, none⟩ = some (.slice ao p cv) := fun o => ke1 o kv
          have km : ∀ o, (wr.alloc o).cell? ⟨m, 0, none⟩ = some (.int .u64 s) := fun o => ke1 o k11
          have hj0 : (0 : Int) ≤ (j : Int) := by omega
          go_wp2_with fail
          go_region_law
            ((refine step_append_lies _ (by rfl) _ _ _ (by rfl) (w.heap.size + 1) 22 i1 _ 1 8 Try.underlying54 hi1 hy0 hy1 hy2 rfl (by omega) (.slice ao p cv) p (ints (outTo σ j p j)) (by rfl) ((HO.out.alloc _).drew)
                ⟨wr.heap.size, 0, none⟩ 1 1 [.int .u64 s] (by rfl) (by rfl) (World.news_of_block (cs := #[.int .u64 s]) (t := 22) (fr := (0, 0)) (one_new _ _)) (by simp [Value.oneCell'])
                (by omega) (by unfold maxLen; omega) (by omega) (by simp; omega) (wr.heap.size + 1) (by simp) ?_; intro g cap w1 hown1 hgrow hat hlt2; have hfz : w1.frozen? ⟨w.heap.size, j, none⟩ = false := (hgrow.frozen_far _ (by simp; omega) (Ne.symm N0.out)).trans (fz1' _ kf (by simp; omega)); have hcw := (hgrow.cell_far ⟨w.heap.size, j, none⟩ (by simp; omega) (Ne.symm N0.out)).trans (ke1 _ kv)))
          all_goals
            have PR := push_out HOU.out hlt HCv.out HUL.out.symm (below_one _ _) hown1 hgrow hat (by omega)
            have P1 : Hid (∃ cells, Outs _ w.heap.size n cells (outTo σ j (p + 1)) ∧ Below w.heap.size w _) := ⟨_, PR.1.congr (fun i _ => outTo_snoc i hpl HSs.out), HBw.out.trans PR.2⟩
            clear PR hown1 hgrow hat hlt2 hfz hcw kv kf ka km HO HOU HBw k10 k11
            go_wp2
            go_roundw
            case rel => exact ⟨p + 1, by omega, by go_num, P1⟩
            case measure => simp [intOf]; omega
        · obtain rfl : p = (σ j).length := by omega
          have P1 : Hid (∃ cells, Outs wr w.heap.size n cells (outTo σ (j + 1) 0) ∧ Below w.heap.size w wr) := by
            obtain ⟨cells, h1, h2⟩ := HP.out
            exact ⟨cells, h1.congr (fun i _ => outTo_next i rfl), h2⟩
          clear HP
          go_wp2
          go_roundw
          case rel => exact ⟨j + 1, by omega, by go_num, P1⟩
          case measure => simp [intOf]; omega
    · obtain rfl : j = n := by omega
      have P1 : Hid (CameM wr (some ⟨w.heap.size, 0, none⟩) j ((List.range j).map σ) ∧ Below w.heap.size w wr) := by
        obtain ⟨cells, h1, h2⟩ := HC.out
        exact ⟨outs_came (h1.congr (fun i hi => by simp [outTo, hi])) HX.out, h2⟩
      clear HC
      go_wp2
      go_ret
      exact ⟨rfl, P1.out⟩

end Go.Proofs.Qxb6601533a
