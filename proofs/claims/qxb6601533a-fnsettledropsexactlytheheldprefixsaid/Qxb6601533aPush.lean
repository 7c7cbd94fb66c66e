/- LAWS ON THE LEDGER's MEMORY: how it starts; one message pushed. By an AI agent. -/
import Derived.Test.Qxb6601533aLed
namespace Go.Proofs.Qxb6601533a
open Go.RowKit
set_option linter.unusedVariables false
set_option linter.unusedSimpArgs false

theorem made_even (a b : Value) (n j : Nat) (h : j < n) : (madeCells #[a, b] (n * 2)).toList[j * 2]? = some a := by
  simp [madeCells, show j * 2 < n * 2 by omega]
theorem made_odd (a b : Value) (n j : Nat) (h : j < n) : (madeCells #[a, b] (n * 2)).toList[j * 2 + 1]? = some b := by
  simp [madeCells, show j * 2 + 1 < n * 2 by omega, show (j * 2 + 1) % 2 = 1 by omega]

theorem own_blk {w : World} {B e size g n cap : Nat} {xs : List Value} (h : w.ownsRow B e size (.slice (some ⟨g, 0, none⟩) n cap) n xs) : ∃ cur : Array Value, w.heap[g]? = some (.cells cur e (0, 0)) ∧ cur.size = cap * size ∧ cur.toList.take (n * size) = xs := by
  rcases h.2 with ⟨h', _⟩ | ⟨g', cap', cur, h', _, hg, _, _, hs, ht⟩
  · simp at h'
  · simp only [Value.slice.injEq, Option.some.injEq, Addr.mk.injEq, and_true, true_and] at h'
    obtain ⟨rfl, rfl⟩ := h'
    exact ⟨cur, hg, hs, ht⟩

/-- The ledger as it starts: every fifo empty. -/
theorem start_rows {w0 : World} {B n : Nat} (v5 : Value) (hown : w0.ownsRow (B + 1) 90 2 (.slice (some ⟨B + 1, 0, none⟩) n n) n (madeCells #[.slice none 0 0, .int .i64 0] (n * 2)).toList) :
    Rows' (w0.setCell ⟨B, 5, none⟩ v5) B n (fun _ => []) (fun _ h => h = 0) := by
  have hcell : ∀ o, (w0.setCell ⟨B, 5, none⟩ v5).cell? ⟨B + 1, o, none⟩ = w0.cell? ⟨B + 1, o, none⟩ := fun o => by
    rw [World.cell?_setCell_other (h := by simp)]
  have h0 : ∀ j, j < n → (w0.setCell ⟨B, 5, none⟩ v5).cell? ⟨B + 1, j * 2, none⟩ = some (.slice none 0 0) := fun j hj => by
    rw [hcell, hown.cellAt (j * 2) (by omega)]; exact made_even _ _ n j hj
  have h1 : ∀ j, j < n → (w0.setCell ⟨B, 5, none⟩ v5).cell? ⟨B + 1, j * 2 + 1, none⟩ = some (.int .i64 0) := fun j hj => by
    rw [hcell, hown.cellAt (j * 2 + 1) (by omega)]; exact made_odd _ _ n j hj
  refine ⟨fun j hj => ⟨0, rfl, .slice none 0 0, 0, [], h0 j hj, h1 j hj, World.ownsRow_nil _ _ _ _, rfl, ?_⟩, ?_, ?_⟩
  · intro p hp; cases hp
  · intro i j hi hj _ vi vj hvi _
    rw [h0 i hi] at hvi
    obtain rfl := Option.some.inj hvi
    exact .inl rfl
  · obtain ⟨cur, h2, h3, _⟩ := own_blk hown
    exact ⟨cur, by rw [heap_setCell_other w0 ⟨B, 5, none⟩ (B + 1) v5 (by simp)]; exact h2, h3⟩

/-- ONE MESSAGE PUSHED onto the fifo j. -/
theorem push_rows {wr Wx w1 : World} {B n j p g cap Hn : Nat} {ρ : Nat → List Int} {v : Value} {ptrs : List Value} {s : Int} {cur : Array Value}
    (H : Rows' wr B n ρ (fun _ h => h = 0)) (hj : j < n) (hB : B + 2 ≤ wr.heap.size) (hv : wr.cell? ⟨B + 1, j * 2, none⟩ = some v) (hh : wr.cell? ⟨B + 1, j * 2 + 1, none⟩ = some (.int .i64 0)) (ho : wr.ownsRow (B + 2) 91 1 v p ptrs) (hp : p = (ρ j).length)
    (hms : ∀ q, q < (ρ j).length → ∃ m, ptrs[0 + q]? = some (.pointer (some ⟨m, 0, none⟩)) ∧ B + 2 ≤ m ∧ Msg wr m ((ρ j).getD q 0))
    (hx : Below wr.heap.size wr Wx) (hxs : wr.heap.size < Wx.heap.size) (hxm : Wx.heap[wr.heap.size]? = some (.cells cur 94 (0, 0))) (hc0 : cur[0]? = some (.int .u64 s))
    (hown1 : w1.ownsRow (B + 2) 91 1 (.slice (some ⟨g, 0, none⟩) (p + 1) cap) (p + 1) (ptrs ++ [.pointer (some ⟨wr.heap.size, 0, none⟩)]))
    (hgrow : Wx.grownBy w1 v.ownBlock) (hat : v.ownBlock = some g ∨ g = Hn) (hH : wr.heap.size ≤ Hn) :
    Rows' (w1.setCell ⟨B + 1, j * 2, none⟩ (.slice (some ⟨g, 0, none⟩) (p + 1) cap)) B n (fun i => if i = j then ρ j ++ [s] else ρ i) (fun _ h => h = 0) ∧
    Below (B + 1) wr (w1.setCell ⟨B + 1, j * 2, none⟩ (.slice (some ⟨g, 0, none⟩) (p + 1) cap)) := by
  have hob : ∀ k, v.ownBlock = some k → B + 2 ≤ k ∧ k < wr.heap.size := fun k hk => ho.lt k hk
  -- blocks ahead of the store
  have hb1 : ∀ b, b < wr.heap.size → some b ≠ v.ownBlock → w1.heap[b]? = wr.heap[b]? := fun b hb hne =>
    (hgrow.block b (by omega) hne).trans (hx.block b hb)
  have hK1 : w1.heap[B + 1]? = wr.heap[B + 1]? := hb1 (B + 1) (by omega) (fun e => by have := hob _ e.symm; omega)
  have hKc : ∀ o, w1.cell? ⟨B + 1, o, none⟩ = wr.cell? ⟨B + 1, o, none⟩ := fun o => World.cell?_of_block hK1
  have hg : B + 2 ≤ g := by
    rcases hat with h | h
    · exact (hob g h).1
    · omega
  have T : Turn wr (w1.setCell ⟨B + 1, j * 2, none⟩ (.slice (some ⟨g, 0, none⟩) (p + 1) cap)) B j v.ownBlock := by
    refine ⟨?_, ?_, ?_, ?_, ?_, ?_, ?_⟩
    · show w1.os = wr.os; rw [hgrow.os, hx.os]
    · show w1.tape = wr.tape; rw [hgrow.tape, hx.tape]
    · show w1.output = wr.output; rw [hgrow.output, hx.output]
    · have h1 := hgrow.size; have h2 := hx.size; simp; omega
    · intro b hb hne hnb
      rw [heap_setCell_other w1 ⟨B + 1, j * 2, none⟩ b _ (by simpa using hne)]
      exact hb1 b hb hnb
    · intro o h1 h2
      rw [World.cell?_setCell_other (h := by intro e; simp at e <;> omega)]
      exact hKc o
    · intro cu hcu
      refine ⟨_, heap_setCell_same w1 (B + 1) (j * 2) cu 90 _ (by rw [hK1]; exact hcu), by simp⟩
  have hW : ∀ b, b ≠ B + 1 → (w1.setCell ⟨B + 1, j * 2, none⟩ (.slice (some ⟨g, 0, none⟩) (p + 1) cap)).heap[b]? = w1.heap[b]? := fun b hb =>
    heap_setCell_other w1 ⟨B + 1, j * 2, none⟩ b _ (by simpa using hb)
  have hnewc : (w1.setCell ⟨B + 1, j * 2, none⟩ (.slice (some ⟨g, 0, none⟩) (p + 1) cap)).cell? ⟨B + 1, j * 2, none⟩ = some (.slice (some ⟨g, 0, none⟩) (p + 1) cap) :=
    World.cell?_setCell_same (h := (hKc (j * 2)).trans hv) ..
  have R : Row (w1.setCell ⟨B + 1, j * 2, none⟩ (.slice (some ⟨g, 0, none⟩) (p + 1) cap)) B j (ρ j ++ [s]) 0 := by
    refine ⟨_, p + 1, ptrs ++ [.pointer (some ⟨wr.heap.size, 0, none⟩)], hnewc, ?_, ?_, by simp [hp], ?_⟩
    · rw [World.cell?_setCell_other (h := by simp), hKc]; exact hh
    · refine own_keep hown1 fun k hk => hW k ?_
      have e : g = k := by simpa [Value.ownBlock] using hk
      omega
    · have hpl : ptrs.length = (ρ j).length := by have := ho.1; omega
      intro q hq
      simp only [List.length_append, List.length_cons, List.length_nil] at hq
      by_cases e : q < (ρ j).length
      · obtain ⟨m, e1, e2, e3⟩ := hms q e
        refine ⟨m, by rw [List.getElem?_append_left (by omega)]; exact e1, e2, ?_⟩
        have e4 : (ρ j ++ [s]).getD q 0 = (ρ j).getD q 0 := by simp [List.getD, List.getElem?_append_left e]
        rw [e4]
        obtain ⟨cu, hm, hm0⟩ := e3
        refine ⟨cu, ?_, hm0⟩
        rw [hW m (by omega), hb1 m (heap_lt hm) ?_]
        · exact hm
        · intro hh2
          obtain ⟨cu2, h2⟩ := own_type ho hh2.symm
          rw [h2] at hm
          simp at hm
      · obtain rfl : q = (ρ j).length := by omega
        refine ⟨wr.heap.size, by rw [Nat.zero_add, List.getElem?_append_right (by omega)]; simp [hpl], hB, ?_⟩
        have e4 : (ρ j ++ [s]).getD (ρ j).length 0 = s := by simp [List.getD]
        rw [e4]
        refine ⟨cur, ?_, hc0⟩
        rw [hW _ (by omega), hgrow.block _ hxs (fun e => by have := hob _ e.symm; omega)]
        exact hxm
  refine ⟨H.turn hj T ?_ R ?_ _ rfl (fun i k _ h => h), T.below (by omega) (fun k hk => (hob k hk).1)⟩
  · intro v' hv'
    rw [hv] at hv'
    obtain rfl := Option.some.inj hv'
    rfl
  · intro v' hv'
    rw [hnewc] at hv'
    obtain rfl := Option.some.inj hv'
    rcases hat with h | h
    · exact .inl (by rw [h]; rfl)
    · right
      intro k hk
      obtain rfl : g = k := by simpa [Value.ownBlock] using hk
      omega

end Go.Proofs.Qxb6601533a
