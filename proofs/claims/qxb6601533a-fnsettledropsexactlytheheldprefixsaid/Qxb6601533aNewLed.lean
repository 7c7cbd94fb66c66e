/- THE WALK OF ZZNewLedger. By an AI agent. -/
import Derived.Test.Qxb6601533aPush
import Derived.Deep.RegionHeld3
import Derived.Deep.RegionLaw
import Derived.Deep.AppendLies
import Derived.Deep.DrawnRows
namespace Go.Proofs.Qxb6601533a
open Go.RowKit
set_option linter.unusedVariables false
set_option linter.unusedSimpArgs false
attribute [local go_sem ↓] Go.wp_at_zero Go.wp_at_succ

theorem info90 : (Try.prog.info? 90).map (fun i => (i.zero, i.size, i.bytes)) = some (some (.agg #[.slice none 0 0, .int .i64 0]), 2, 32) := by kernel_rfl
theorem info91 : (Try.prog.info? 91).map (fun i => (i.zero, i.size, i.bytes)) = some (some (.pointer none), 1, 8) := by kernel_rfl

theorem Rows'.congr {w : World} {B n : Nat} {ρ ρ' : Nat → List Int} {hd hd' : Nat → Nat → Prop} (H : Rows' w B n ρ hd) (h : ∀ i, i < n → ρ i = ρ' i) (h2 : ∀ i k, i < n → hd i k → hd' i k) : Rows' w B n ρ' hd' :=
  ⟨fun j hj => by obtain ⟨k, e1, e2⟩ := H.row j hj; exact ⟨k, h2 j k hj e1, by rw [← h j hj]; exact e2⟩, H.apart, H.blk⟩

theorem fz2 {W : World} {a : Addr} (x y : Obj) (h : W.frozen? a = false) (hl : a.block < W.heap.size) : ((W.alloc x).alloc y).drew.frozen? a = false := by
  show ((W.alloc x).alloc y).frozen? a = false
  rw [World.frozen?_alloc_old (h := by simp; omega), World.frozen?_alloc_old (h := by omega)]
  exact h

theorem two_new (W : World) (x y : Obj) : ((W.alloc x).alloc y).drew.heap[W.heap.size + 1]? = some y := by
  have h := heap_alloc_new (W.alloc x) y
  have e : (W.alloc x).heap.size = W.heap.size + 1 := by simp
  rw [e] at h
  exact h

theorem ce1 {W : World} {a : Addr} {v : Value} (x : Obj) (h : W.cell? a = some v) : (W.alloc x).cell? a = some v := by
  have hl := World.block_lt_of_cell? W _ h
  rw [World.cell?_alloc_old (h := by omega)]
  exact h
theorem ce2 {W : World} {a : Addr} {v : Value} (x y : Obj) (h : W.cell? a = some v) : ((W.alloc x).alloc y).drew.cell? a = some v := by
  have hl := World.block_lt_of_cell? W _ h
  show ((W.alloc x).alloc y).cell? a = some v
  rw [World.cell?_alloc_old (h := by simp; omega), World.cell?_alloc_old (h := by omega)]
  exact h

/-- Rows below j whole, row j its first p. -/
def upTo (kept : List (List Int)) (j p : Nat) (i : Nat) : List Int := if i < j then kept.getD i [] else if i = j then (kept.getD j []).take p else []

theorem one_of_two (W : World) (x y : Obj) : ((W.alloc x).alloc y).drew.heap[W.heap.size]? = some x := by
  show ((W.alloc x).alloc y).heap[W.heap.size]? = some x
  rw [Below.heap_alloc (W.alloc x) y W.heap.size (by simp)]
  exact heap_alloc_new W x
theorem below_two (W : World) (x y : Obj) : Below W.heap.size W ((W.alloc x).alloc y).drew := (((Below.refl W.heap.size W).alloc (Nat.le_refl _) x).alloc (by simp) y).drew
theorem size_two (W : World) (x y : Obj) : W.heap.size < ((W.alloc x).alloc y).drew.heap.size := by
  have h1 : (W.alloc x).heap.size = W.heap.size + 1 := by simp
  have h2 : ((W.alloc x).alloc y).heap.size = (W.alloc x).heap.size + 1 := by simp
  show W.heap.size < ((W.alloc x).alloc y).heap.size
  omega

theorem upTo_snoc {kept : List (List Int)} {j p : Nat} {s : Int} (i : Nat) (h : p < (kept.getD j []).length) (hs : (kept.getD j []).getD p 0 = s) :
    (if i = j then upTo kept j p j ++ [s] else upTo kept j p i) = upTo kept j (p + 1) i := by
  unfold upTo
  by_cases e : i = j
  · subst e
    rw [if_pos rfl, if_neg (by omega), if_pos rfl, if_neg (by omega), if_pos rfl, List.take_succ_eq_append_getElem h, ← hs]
    simp only [List.getD_eq_getElem?_getD] at h ⊢
    simp [List.getElem?_eq_getElem h]
  · rw [if_neg e]
    by_cases e2 : i < j
    · rw [if_pos e2, if_pos e2]
    · rw [if_neg e2, if_neg e, if_neg e2, if_neg e]
theorem upTo_next {kept : List (List Int)} {j p : Nat} (i : Nat) (h : (kept.getD j []).length = p) : upTo kept j p i = upTo kept (j + 1) 0 i := by
  unfold upTo
  by_cases e : i < j
  · rw [if_pos e, if_pos (by omega)]
  · by_cases e2 : i = j
    · subst e2
      rw [if_neg e, if_pos rfl, if_pos (by omega), List.take_of_length_le (by omega)]
    · rw [if_neg e, if_neg e2, if_neg (by omega)]
      split <;> simp

set_option maxHeartbeats 16000000 in
theorem newLed_any (self : Int) (a1 a2 a3 : Option Addr) (l1 c1 l2 c2 n c3 : Nat) (kept : List (List Int)) (w : World) (hk : CameM w a3 n kept) (hn : n ≤ 65536) (hr : ∀ r, r < n → (kept.getD r []).length ≤ 131072) :
    Calls Try.prog 31 #[.int .i64 self, .slice a1 l1 c1, .slice a2 l2 c2, .slice a3 n c3] w fun e w' => e = .returned (.pointer (some ⟨w.heap.size, 0, none⟩)) ∧ LedB w' w.heap.size self (.slice a1 l1 c1) (.slice a2 l2 c2) n ∧ Rows' w' w.heap.size n (fun i => kept.getD i []) (fun _ h => h = 0) ∧ Below w.heap.size w w' := by
  obtain ⟨i0, hi, hz0, hz1, hz2⟩ := info_parts info90
  have HK := hid hk
  have HRl := hid hr
  clear hk hr
  go_enter Try.func31, Try.ntmps31
  go_wp2_with (at_make; refine wpList_make_full _ rfl _ _ 85 rfl (w.heap.size + 1) 90 i0 (.agg #[.slice none 0 0, .int .i64 0]) 2 Try.underlying85 hi hz0 hz1 _ _ _ _ n rfl rfl (by omega) (by omega) ?b2 ?b3 ?b4 ?_)
  case b2 => rw [hz2]; omega
  case b3 => unfold maxLen; omega
  case b4 => simp
  intro w0 hown0 hgrow0
  have hblk : w0.heap[w.heap.size]? = some (.cells #[.int .i64 self, .bool false, .slice none 0 0, .slice a1 l1 c1, .slice none 0 0, .slice none 0 0, .slice a2 l2 c2] 87 (0, 0)) := by
    rw [hgrow0.block w.heap.size (by simp) (by simp)]; exact heap_alloc_new w _
  have hc5 : w0.cell? ⟨w.heap.size, 5, none⟩ = some (.slice none 0 0) := by rw [cell_of_row _ _ _ _ _ _ hblk]; rfl
  have hf5 : w0.frozen? ⟨w.heap.size, 5, none⟩ = false := frozen_of_row _ _ _ _ _ hblk
  have hsz0 : w.heap.size + 2 ≤ w0.heap.size := by
    have := (hown0.lt (w.heap.size + 1) rfl).2; omega
  have hb0 : Below w.heap.size w w0 := ((Below.refl _ _).alloc (Nat.le_refl _) _).grown hgrow0 (by simp) (fun k h => by cases h)
  have R0 := hid (start_rows (.slice (some ⟨w.heap.size + 1, 0, none⟩) n n) hown0)
  have HBk := hid hblk
  have HB0 := hid hb0
  clear hown0 hgrow0 hblk hb0
  have HBk2 : Hid ((w0.setCell ⟨w.heap.size, 5, none⟩ (.slice (some ⟨w.heap.size + 1, 0, none⟩) n n)).heap[w.heap.size]? =
      some (.cells #[.int .i64 self, .bool false, .slice none 0 0, .slice a1 l1 c1, .slice none 0 0, .slice (some ⟨w.heap.size + 1, 0, none⟩) n n, .slice a2 l2 c2] 87 (0, 0))) := by
    show _ = _
    rw [heap_setCell_same _ _ _ _ _ _ HBk.out]; rfl
  have hs2 : w.heap.size + 2 ≤ (w0.setCell ⟨w.heap.size, 5, none⟩ (.slice (some ⟨w.heap.size + 1, 0, none⟩) n n)).heap.size := by simpa using hsz0
  have HB2 := hid (HB0.out.setCell (p := ⟨w.heap.size, 5, none⟩) (Nat.le_refl _) (.slice (some ⟨w.heap.size + 1, 0, none⟩) n n))
  go_wp2_with fail
  generalize w0.setCell ⟨w.heap.size, 5, none⟩ (.slice (some ⟨w.heap.size + 1, 0, none⟩) n n) = W2 at *
  clear hc5 hf5 hsz0 HBk HB0
  obtain ⟨i1, hi1, hy0, hy1, hy2⟩ := info_parts info91
  go_loopw [26] (fun si wr => ∃ j : Nat, j ≤ n ∧ si = .int .i64 j ∧ Hid (Rows' wr w.heap.size n (upTo kept j 0) (fun _ h => h = 0) ∧ Below (w.heap.size + 1) W2 wr)) (fun si _ => n - (intOf si).toNat)
  case atStart => exact ⟨0, by omega, rfl, R0.out.congr (fun i _ => by simp [upTo]) (fun i k _ h => h), Below.refl _ _⟩
  case round =>
    obtain ⟨j, hj, rfl, HR⟩ := hrel
    by_cases hlt0 : j < n
    · obtain ⟨b, off, rfl, hc⟩ := cameM_at HK.out (by omega)
      obtain ⟨ar, lr, cr, hcx0, hrow⟩ := hc j hlt0
      have hwW : Below w.heap.size w wr := HB2.out.trans (HR.out.2.mono (by omega))
      have hcx := cell_later hwW hcx0
      have hlr : lr ≤ 131072 := by have h1 := HRl.out j hlt0; rw [hrow.1] at h1; exact h1
      have HRW := hid hrow
      have HLr := hid hrow.1
      have hlt' : (j : Int) < (n : Int) := by omega
      clear hc hcx0 hrow hwW
      go_wp2_with fail
      obtain ⟨wo, hwo⟩ : ∃ wo : World, wo = wr := ⟨_, rfl⟩
      go_loopw [34] (fun sp wr => ∃ p : Nat, p ≤ lr ∧ sp = .int .i64 p ∧ Hid (Rows' wr w.heap.size n (upTo kept j p) (fun _ h => h = 0) ∧ Below (w.heap.size + 1) W2 wr)) (fun sp _ => lr - (intOf sp).toNat)
      case atStart => exact ⟨0, by omega, rfl, HR⟩
      case round =>
        obtain ⟨p, hp, rfl, HP⟩ := hrel
        clear HR hwo hcx
        by_cases hpl : p < lr
        · obtain ⟨b3, off3, rfl, hc3⟩ := came_at HRW.out (by omega)
          have hw3 : Below w.heap.size w wr := HB2.out.trans (HP.out.2.mono (by omega))
          have k3 := cell_later hw3 (hc3 p hpl)
          have hpl' : (p : Int) < (lr : Int) := by omega
          obtain ⟨h0, rfl, v, len, ptrs, kv, kh, ho, hlen, hms⟩ := HP.out.1.row j hlt0
          have hul : (upTo kept j p j).length = p := by
            unfold upTo
            rw [if_neg (by omega), if_pos rfl, List.length_take, HLr.out]; omega
          obtain rfl : len = p := by omega
          have k5 : wr.cell? ⟨w.heap.size, 5, none⟩ = some (.slice (some ⟨w.heap.size + 1, 0, none⟩) n n) := by
            rw [HP.out.2.cell (p := ⟨w.heap.size, 5, none⟩) (by simp), cell_of_row _ _ _ _ _ _ HBk2.out]; rfl
          have kf : wr.frozen? ⟨w.heap.size + 1, j * 2, none⟩ = false := by
            obtain ⟨cur, e1, _⟩ := HP.out.1.blk
            exact frozen_of_row _ _ _ _ _ e1
          have HUL := hid hul
          have HMS := hid hms
          have HO := hid ho
          clear hc3 hw3 hul hms hlen ho
          generalize hs : (kept.getD j []).getD len 0 = s at k3
          have HS := hid hs
          clear hs
          obtain ⟨ao, cv, rfl⟩ : ∃ ao c, v = .slice ao len c := by
            rcases HO.out.2 with ⟨rfl, hz⟩ | ⟨g, cap, cur, rfl, _⟩
            · exact ⟨none, 0, by rw [hz]⟩
            · exact ⟨_, _, rfl⟩
          have hsz : w.heap.size + 2 ≤ wr.heap.size := by have h1 := HP.out.2.size; omega
          have hn0 : (Value.slice ao len cv).ownBlock ≠ some w.heap.size := fun e => by have h1 := (HO.out.lt _ e).1; omega
          have hn1 : (Value.slice ao len cv).ownBlock ≠ some (w.heap.size + 1) := fun e => by have h1 := (HO.out.lt _ e).1; omega
          have N0 := hid hn0
          have N1 := hid hn1
          have hj0 : (0 : Int) ≤ (j : Int) := by omega
          clear hn0 hn1
          have ka5 : ∀ o, (wr.alloc o).cell? ⟨w.heap.size, 5, none⟩ = some (.slice (some ⟨w.heap.size + 1, 0, none⟩) n n) := fun o => ce1 o k5
          have kav : ∀ o, (wr.alloc o).cell? ⟨w.heap.size + 1, j * 2, none⟩ = some (.slice ao len cv) := fun o => ce1 o kv
          have kb5 : ∀ o o', ((wr.alloc o).alloc o').cell? ⟨w.heap.size, 5, none⟩ = some (.slice (some ⟨w.heap.size + 1, 0, none⟩) n n) := fun o o' => ce1 o' (ce1 o k5)
          have kbv : ∀ o o', ((wr.alloc o).alloc o').cell? ⟨w.heap.size + 1, j * 2, none⟩ = some (.slice ao len cv) := fun o o' => ce1 o' (ce1 o kv)
          go_wp2_with fail
          go_region_law
            ((refine step_append_lies _ (by rfl) _ _ _ (by rfl) (w.heap.size + 2) 91 i1 _ 1 8 Try.underlying88 hi1 hy0 hy1 hy2 rfl (by omega) (.slice ao len cv) len ptrs (by rfl) (((HO.out.alloc _).alloc _).drew)
                ⟨wr.heap.size + 1, 0, none⟩ 1 1 [.pointer (some ⟨wr.heap.size, 0, none⟩)] (by rfl) (by rfl) (World.news_of_block (cs := #[.pointer (some ⟨wr.heap.size, 0, none⟩)]) (t := 91) (fr := (0, 0)) (two_new _ _ _)) (by simp [Value.oneCell'])
                (by omega) (by unfold maxLen; omega) (by omega) (by simp; omega) (wr.heap.size + 2) (by simp) ?_; intro g cap w1 hown1 hgrow hat hlt; have hfz : w1.frozen? ⟨w.heap.size + 1, j * 2, none⟩ = false := (hgrow.frozen_far _ (by simp; omega) (Ne.symm N1.out)).trans (fz2 _ _ kf (by simp; omega)); have hcw := (hgrow.cell_far ⟨w.heap.size + 1, j * 2, none⟩ (by simp; omega) (Ne.symm N1.out)).trans (ce2 _ _ kv); have hcw5 := (hgrow.cell_far ⟨w.heap.size, 5, none⟩ (by simp; omega) (Ne.symm N0.out)).trans (ce2 _ _ k5)))
          all_goals
            have PR := push_rows HP.out.1 hlt0 hsz kv kh HO.out HUL.out.symm HMS.out (below_two _ _ _) (size_two _ _ _) (one_of_two _ _ _) rfl hown1 hgrow hat (by omega)
            have P1 : Hid (Rows' _ w.heap.size n (upTo kept j (len + 1)) (fun _ h => h = 0)) := PR.1.congr (fun i _ => upTo_snoc i (by rw [HLr.out]; exact hpl) HS.out) (fun i k _ h => h)
            have P2 := hid (HP.out.2.trans PR.2)
            clear PR hown1 hgrow hat hlt hfz hcw hcw5 kv k5 kf ka5 kav kb5 kbv HO HMS HUL HP k3
            go_wp2
            go_roundw
            case rel => exact ⟨len + 1, by omega, by go_num, P1.out, P2.out⟩
            case measure => simp [intOf]; omega
        · obtain rfl : p = lr := by omega
          have P1 : Hid (Rows' wr w.heap.size n (upTo kept (j + 1) 0) (fun _ h => h = 0)) := HP.out.1.congr (fun i _ => upTo_next i HLr.out) (fun i k _ h => h)
          have P2 := hid HP.out.2
          clear HP
          go_wp2
          go_roundw
          case rel => exact ⟨j + 1, by omega, by go_num, P1.out, P2.out⟩
          case measure => simp [intOf]; omega
    · obtain rfl : j = n := by omega
      have P1 := hid (HR.out.1.congr (ρ' := fun i => kept.getD i []) (fun i hi => by simp [upTo, hi]) (fun i k _ h => h))
      have P2 := hid HR.out.2
      clear HR
      go_wp2
      go_ret
      exact ⟨rfl, (P2.out.block _ (Nat.lt_succ_self _)).trans HBk2.out, P1.out, HB2.out.trans (P2.out.mono (Nat.le_succ _))⟩

end Go.Proofs.Qxb6601533a
