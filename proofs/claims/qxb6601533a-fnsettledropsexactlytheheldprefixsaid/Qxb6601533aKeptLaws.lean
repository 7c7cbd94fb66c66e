/- LAWS ON ZZKept's MEMORY; the walk of fifo.all behind later worlds; the walk of ZZSettle. By an AI agent. -/
import Derived.Test.Qxb6601533aSettle
import Derived.Test.Qxb6601533aPush
import Derived.Test.Qxb6601533aClone
namespace Go.Proofs.Qxb6601533a
open Go.RowKit
set_option linter.unusedVariables false
set_option linter.unusedSimpArgs false
attribute [local go_sem ↓] Go.wp_at_zero Go.wp_at_succ

theorem all_at (B j h : Nat) (xs : List Int) (w0 w : World) (hr : Row w0 B j xs h) (hb : Below w0.heap.size w0 w) (hl : xs.length ≤ 1048576) (hh : h ≤ 1048576) :
    Calls Try.prog 44 #[.pointer (some ⟨B + 1, j * 2, none⟩)] w fun e w' => ∃ ao c, e = .returned (.slice ao xs.length c) ∧ PtrRow w0 ao xs ∧ ∃ nq, w' = w.drewN nq := by
  obtain ⟨v, len, ptrs, c1', c2', ho, hlen, hp⟩ := hr
  have c1 := cell_later hb c1'
  have c2 := cell_later hb c2'
  clear c1' c2' hb
  rcases ho.2 with ⟨rfl, hz⟩ | ⟨g, cap, cur, rfl, hgB, hg, hnc, _⟩
  · have hx : xs.length = 0 := by omega
    obtain rfl : h = 0 := by omega
    have HX := hid hx
    clear ho hp hlen hx
    go_enter Try.func44, Try.ntmps44
    go_wp2
    go_quiet (fail)
    go_wp2
    go_ret
    exact ⟨none, 0, by rw [HX.out]; rfl, fun h => by have := HX.out; omega, _, rfl⟩
  · have HL := hid hlen
    have HP : Hid (PtrRow w0 (if cap = h then some ⟨g, 0, none⟩ else some ⟨g, h, none⟩) xs) := by
      intro hpos
      refine ⟨g, h, by rw [if_neg (by omega)], fun p hp1 => ?_⟩
      obtain ⟨m, e1, _, e3⟩ := hp p hp1
      exact ⟨m, by rw [ho.cellAt (h + p) (by omega)]; exact e1, e3⟩
    have b1 : (0 : Int) ≤ (h : Int) := by omega
    have b2 : (h : Int) ≤ (len : Int) := by omega
    have b3 : (len : Int) ≤ (cap : Int) := by omega
    clear ho hp hlen hg
    by_cases hce : cap = h
    · rw [if_pos hce] at HP
      go_enter Try.func44, Try.ntmps44
      go_wp2
      go_quiet (fail)
      go_wp2
      go_ret
      refine ⟨_, 0, ?_, HP.out, _, rfl⟩
      have e : len - h = xs.length := by have := HL.out; omega
      rw [← e]
      rfl
    · rw [if_neg hce] at HP
      go_enter Try.func44, Try.ntmps44
      go_wp2
      go_quiet (fail)
      go_wp2
      go_ret
      refine ⟨_, cap - h, ?_, HP.out, _, rfl⟩
      have e : len - h = xs.length := by have := HL.out; omega
      rw [← e]
      rfl

theorem zzSettle_any (B n : Nat) (self : Int) (a1 a2 : Option Addr) (l1 c1 l2 c2 : Nat) (last : List Int) (held : List (List Int)) (ρ : Nat → List Int) (wb w : World) (hwb : wb.heap.size = B) (hbel : Below B wb w)
    (hled : LedB w B self (.slice a1 l1 c1) (.slice a2 l2 c2) n) (hrows : Rows' w B n ρ (fun _ h => h = 0)) (hl : Came wb a1 l1 last) (hh : CameM wb a2 l2 held) (hl1 : l1 ≤ 65536) (hl2 : l2 ≤ 65536) (hn : n ≤ 65536)
    (hρ : ∀ j, j < n → (ρ j).length ≤ 131072) (hneed : ∀ j, j < n → ρ j ≠ [] → j < l1 ∧ ∀ i, i < held.length → (i : Int) ≠ self → j < (held.getD i []).length) :
    Calls Try.prog 32 #[.pointer (some ⟨B, 0, none⟩)] w fun e w' => e = .returned (.tuple #[]) ∧ Rows' w' B n (fun j => settled self last held j (ρ j)) (hdAt n) ∧ Below (B + 1) w w' := by
  have C := hid (settle_any B n self a1 a2 l1 c1 l2 c2 last held ρ wb w hwb hbel hled hrows hl hh hl1 hl2 hn hρ hneed)
  clear hwb hbel hled hrows hl hh hρ hneed
  go_enter Try.func32, Try.ntmps32
  go_wp2_with fail
  refine C.out.mono ?_
  rintro e w' ⟨rfl, h1, h2⟩
  have H := hid (And.intro h1 h2)
  clear h1 h2
  go_wp2
  go_end0
  exact ⟨rfl, H.out⟩

/-- The rows that ZZKept has written so far. -/
structure Outs (w : World) (O n : Nat) (cells : List Value) (τ : Nat → List Int) : Prop where
  own : w.ownsRow O 54 1 (.slice (some ⟨O, 0, none⟩) n n) n cells
  row : ∀ i, i < n → ∃ v, cells[i]? = some v ∧ w.ownsRow (O + 1) 22 1 v (τ i).length (ints (τ i))
  apart : ∀ i j vi vj, i < n → j < n → i ≠ j → cells[i]? = some vi → cells[j]? = some vj → vi.ownBlock = none ∨ vi.ownBlock ≠ vj.ownBlock

theorem Outs.congr {w : World} {O n : Nat} {cells : List Value} {τ τ' : Nat → List Int} (H : Outs w O n cells τ) (h : ∀ i, i < n → τ i = τ' i) : Outs w O n cells τ' :=
  ⟨H.own, fun i hi => by obtain ⟨v, h1, h2⟩ := H.row i hi; exact ⟨v, h1, by rw [← h i hi]; exact h2⟩, H.apart⟩
theorem Outs.drewN {w : World} {O n : Nat} {cells : List Value} {τ : Nat → List Int} (H : Outs w O n cells τ) (q : Nat) : Outs (w.drewN q) O n cells τ := ⟨H.own, H.row, H.apart⟩

theorem outs_start {w : World} {O n : Nat} (h : w.ownsRow O 54 1 (.slice (some ⟨O, 0, none⟩) n n) n (madeCells #[.slice none 0 0] n).toList) : Outs w O n (madeCells #[.slice none 0 0] n).toList (fun _ => []) := by
  have hc : ∀ i, i < n → (madeCells #[.slice none 0 0] n).toList[i]? = some (.slice none 0 0) := fun i hi => by simp [madeCells, hi, Nat.mod_one]
  refine ⟨h, fun i hi => ⟨_, hc i hi, World.ownsRow_nil _ _ _ _⟩, fun i j vi vj hi hj _ h1 _ => ?_⟩
  rw [hc i hi] at h1
  obtain rfl := Option.some.inj h1
  exact .inl rfl

/-- ONE NUMBER PUSHED onto the row j. -/
theorem push_out {wr Wx w1 : World} {O n j p g cap Hn : Nat} {τ : Nat → List Int} {cells : List Value} {v : Value} {s : Int}
    (H : Outs wr O n cells τ) (hj : j < n) (hv : cells[j]? = some v) (hp : p = (τ j).length) (hx : Below wr.heap.size wr Wx) 
    (hown1 : w1.ownsRow (O + 1) 22 1 (.slice (some ⟨g, 0, none⟩) (p + 1) cap) (p + 1) (ints (τ j) ++ [.int .u64 s]))
    (hgrow : Wx.grownBy w1 v.ownBlock) (hat : v.ownBlock = some g ∨ g = Hn) (hH : wr.heap.size ≤ Hn) :
    Outs (w1.setCell ⟨O, j, none⟩ (.slice (some ⟨g, 0, none⟩) (p + 1) cap)) O n (cells.set j (.slice (some ⟨g, 0, none⟩) (p + 1) cap)) (fun i => if i = j then τ j ++ [s] else τ i) ∧
    Below O wr (w1.setCell ⟨O, j, none⟩ (.slice (some ⟨g, 0, none⟩) (p + 1) cap)) := by
  have hlc : cells.length = n := by have := H.own.1; omega
  have hO : O < wr.heap.size := (H.own.lt O rfl).2
  have hlt : ∀ i vi, i < n → cells[i]? = some vi → ∀ k, vi.ownBlock = some k → O + 1 ≤ k ∧ k < wr.heap.size := by
    intro i vi hi hvi k hk
    obtain ⟨v', h1, h2⟩ := H.row i hi
    rw [h1] at hvi
    obtain rfl := Option.some.inj hvi
    exact h2.lt k hk
  have hb1 : ∀ b, b < wr.heap.size → some b ≠ v.ownBlock → w1.heap[b]? = wr.heap[b]? := fun b hb hne =>
    (hgrow.block b (by have := hx.size; omega) hne).trans (hx.block b hb)
  have hg : O + 1 ≤ g := by
    rcases hat with h | h
    · exact (hlt j v hj hv g h).1
    · omega
  have hW : ∀ b, b ≠ O → (w1.setCell ⟨O, j, none⟩ (.slice (some ⟨g, 0, none⟩) (p + 1) cap)).heap[b]? = w1.heap[b]? := fun b hb =>
    heap_setCell_other w1 ⟨O, j, none⟩ b _ (by simpa using hb)
  have hownO : w1.ownsRow O 54 1 (.slice (some ⟨O, 0, none⟩) n n) n cells := by
    refine own_keep H.own fun k hk => hb1 k ?_ ?_
    · obtain rfl : O = k := by simpa [Value.ownBlock] using hk
      exact hO
    · obtain rfl : O = k := by simpa [Value.ownBlock] using hk
      intro e
      have := (hlt j v hj hv O e.symm).1
      omega
  refine ⟨⟨(hownO.stored j _).1, ?_, ?_⟩, ?_⟩
  · intro i hi
    by_cases e : i = j
    · subst e
      refine ⟨_, List.getElem?_set_self (by omega), ?_⟩
      rw [if_pos rfl, List.length_append, List.length_singleton, ← hp, ← ints_snoc]
      refine own_keep hown1 fun k hk => hW k ?_
      have e : g = k := by simpa [Value.ownBlock] using hk
      omega
    · obtain ⟨vi, h1, h2⟩ := H.row i hi
      refine ⟨vi, by rw [List.getElem?_set_ne (fun h => e h.symm)]; exact h1, ?_⟩
      rw [if_neg e]
      refine own_keep h2 fun k hk => ?_
      have h3 := hlt i vi hi h1 k hk
      rw [hW k (by omega)]
      refine hb1 k h3.2 ?_
      rcases H.apart i j vi v hi hj e h1 hv with h4 | h4
      · rw [h4] at hk; cases hk
      · rw [hk] at h4; exact h4
  · intro i k vi vk hi hk hik hvi hvk
    by_cases ei : i = j
    · subst ei
      rw [List.getElem?_set_self (by omega)] at hvi
      rw [List.getElem?_set_ne hik] at hvk
      obtain rfl := Option.some.inj hvi
      right
      intro h
      have h5 : vk.ownBlock = some g := by rw [← h]; rfl
      rcases hat with h4 | h4
      · rcases H.apart k i vk v hk hi (fun e => hik e.symm) hvk hv with h6 | h6
        · rw [h6] at h5; cases h5
        · exact h6 (h5.trans h4.symm)
      · have := (hlt k vk hk hvk g h5).2
        omega
    · rw [List.getElem?_set_ne (fun h => ei h.symm)] at hvi
      by_cases ek : k = j
      · subst ek
        rw [List.getElem?_set_self (by omega)] at hvk
        obtain rfl := Option.some.inj hvk
        rcases hat with h4 | h4
        · rcases H.apart i k vi v hi hk ei hvi hv with h6 | h6
          · exact .inl h6
          · right
            rw [h4] at h6
            exact h6
        · right
          intro h
          have := (hlt i vi hi hvi g h).2
          omega
      · rw [List.getElem?_set_ne (fun h => ek h.symm)] at hvk
        exact H.apart i k vi vk hi hk hik hvi hvk
  · have hbB : Below O wr w1 := by
      refine ⟨?_, ?_, ?_, ?_, ?_⟩
      · rw [hgrow.os, hx.os]
      · rw [hgrow.tape, hx.tape]
      · rw [hgrow.output, hx.output]
      · have h1 := hgrow.size; have h2 := hx.size; omega
      · intro k hk
        refine hb1 k (by omega) ?_
        intro e
        have := (hlt j v hj hv k e.symm).1
        omega
    exact hbB.setCell (p := ⟨O, j, none⟩) (Nat.le_refl _) _

/-- The rows as they read in the end. -/
theorem outs_came {w : World} {O n : Nat} {cells : List Value} {τ : Nat → List Int} (H : Outs w O n cells τ) (hb : ∀ i, i < n → ∀ x ∈ τ i, 0 ≤ x ∧ x ≤ 18446744073709551615) : CameM w (some ⟨O, 0, none⟩) n ((List.range n).map τ) := by
  refine ⟨by simp, (fun h => by cases h), ?_⟩
  intro ad had r hr
  obtain rfl := Option.some.inj had
  obtain ⟨v, h1, h2⟩ := H.row r hr
  obtain ⟨ao, c, rfl, h3, _⟩ := own_came h2 (hb r hr)
  refine ⟨ao, _, c, by rw [Addr.add_lit, Nat.zero_add, rows_cells H.own r hr]; exact h1, ?_⟩
  have e : ((List.range n).map τ).getD r [] = τ r := by simp [List.getD, hr]
  rw [e]
  exact h3

end Go.Proofs.Qxb6601533a
