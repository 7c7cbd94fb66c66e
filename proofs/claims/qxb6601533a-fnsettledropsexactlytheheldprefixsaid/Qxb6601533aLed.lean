/- THE LEDGER IN MEMORY: rows of messages behind the blocks of the call's own. By an AI agent. -/
import Derived.Test.Qxb6601533aRead
namespace Go.Proofs.Qxb6601533a
open Go.RowKit
set_option linter.unusedVariables false
set_option linter.unusedSimpArgs false

/-- A message with its Seq in block m. -/
def Msg (w : World) (m : Nat) (s : Int) : Prop := ∃ cur : Array Value, w.heap[m]? = some (.cells cur 94 (0, 0)) ∧ cur[0]? = some (.int .u64 s)

/-- The fifo at place j of block B + 1, its head h, holds the Seqs xs. -/
def Row (w : World) (B j : Nat) (xs : List Int) (h : Nat) : Prop :=
  ∃ (v : Value) (len : Nat) (ptrs : List Value), w.cell? ⟨B + 1, j * 2, none⟩ = some v ∧ w.cell? ⟨B + 1, j * 2 + 1, none⟩ = some (.int .i64 h) ∧ w.ownsRow (B + 2) 91 1 v len ptrs ∧ len = h + xs.length ∧
    ∀ p, p < xs.length → ∃ m, ptrs[h + p]? = some (.pointer (some ⟨m, 0, none⟩)) ∧ B + 2 ≤ m ∧ Msg w m (xs.getD p 0)

/-- The ledger's own cells. -/
def LedB (w : World) (B : Nat) (self : Int) (vl vh : Value) (n : Nat) : Prop :=
  w.heap[B]? = some (.cells #[.int .i64 self, .bool false, .slice none 0 0, vl, .slice none 0 0, .slice (some ⟨B + 1, 0, none⟩) n n, vh] 87 (0, 0))

/-- Two fifos lie apart. -/
def Apart (w : World) (B i j : Nat) : Prop := ∀ vi vj, w.cell? ⟨B + 1, i * 2, none⟩ = some vi → w.cell? ⟨B + 1, j * 2, none⟩ = some vj → vi.ownBlock = none ∨ vi.ownBlock ≠ vj.ownBlock

/-- All fifos: their Seqs, their heads. -/
structure Rows' (w : World) (B n : Nat) (ρ : Nat → List Int) (hd : Nat → Nat → Prop) : Prop where
  row : ∀ j, j < n → ∃ h, hd j h ∧ Row w B j (ρ j) h
  apart : ∀ i j, i < n → j < n → i ≠ j → Apart w B i j
  blk : ∃ cur : Array Value, w.heap[B + 1]? = some (.cells cur 90 (0, 0)) ∧ cur.size = n * 2

/-- What one step on the fifo j does to memory. 'ob': the block of its array ahead of the step. -/
structure Turn (w w' : World) (B j : Nat) (ob : Option Nat) : Prop where
  os : w'.os = w.os
  tape : w'.tape = w.tape
  output : w'.output = w.output
  size : w.heap.size ≤ w'.heap.size
  block : ∀ b, b < w.heap.size → b ≠ B + 1 → some b ≠ ob → w'.heap[b]? = w.heap[b]?
  cell : ∀ o, o ≠ j * 2 → o ≠ j * 2 + 1 → w'.cell? ⟨B + 1, o, none⟩ = w.cell? ⟨B + 1, o, none⟩
  blk : ∀ cur : Array Value, w.heap[B + 1]? = some (.cells cur 90 (0, 0)) → ∃ cur' : Array Value, w'.heap[B + 1]? = some (.cells cur' 90 (0, 0)) ∧ cur'.size = cur.size

theorem heap_lt {w : World} {b : Nat} {o : Obj} (h : w.heap[b]? = some o) : b < w.heap.size := (Array.getElem?_eq_some_iff.1 h).1

theorem Msg.keep {w w' : World} {m : Nat} {s : Int} (h : Msg w m s) (hb : w'.heap[m]? = w.heap[m]?) : Msg w' m s := by
  obtain ⟨cur, h1, h2⟩ := h
  exact ⟨cur, hb.trans h1, h2⟩

theorem Msg.cell {w : World} {m : Nat} {s : Int} (h : Msg w m s) : w.cell? ⟨m, 0, none⟩ = some (.int .u64 s) := by
  obtain ⟨cur, h1, h2⟩ := h
  rw [cell_of_row w m 0 cur 94 (0, 0) h1]
  exact h2

theorem own_keep {w w' : World} {B e size n : Nat} {v : Value} {xs : List Value} (h : w.ownsRow B e size v n xs) (hb : ∀ k, v.ownBlock = some k → w'.heap[k]? = w.heap[k]?) : w'.ownsRow B e size v n xs := by
  refine ⟨h.1, ?_⟩
  rcases h.2 with hn | ⟨g, cap, cur, rfl, hg, hgg, rest⟩
  · exact .inl hn
  · exact .inr ⟨g, cap, cur, rfl, hg, by rw [hb g rfl]; exact hgg, rest⟩

/-- The block of an owned row is of the element's type. -/
theorem own_type {w : World} {B e size n k : Nat} {v : Value} {xs : List Value} (h : w.ownsRow B e size v n xs) (hk : v.ownBlock = some k) : ∃ cur, w.heap[k]? = some (.cells cur e (0, 0)) := by
  rcases h.2 with ⟨rfl, _⟩ | ⟨g, cap, cur, rfl, hg, hgg, rest⟩
  · cases hk
  · obtain rfl : g = k := by simpa [Value.ownBlock] using hk
    exact ⟨cur, hgg⟩

/-- A fifo that the step did not touch. -/
theorem Row.turn {w w' : World} {B i j h : Nat} {xs : List Int} {ob : Option Nat} (hr : Row w B i xs h) (hij : i ≠ j) (ht : Turn w w' B j ob) (hob : ∀ k, ob = some k → ∃ cur, w.heap[k]? = some (.cells cur 91 (0, 0)))
    (hap : ∀ vi, w.cell? ⟨B + 1, i * 2, none⟩ = some vi → vi.ownBlock = none ∨ vi.ownBlock ≠ ob) : Row w' B i xs h := by
  obtain ⟨v, len, ptrs, c1, c2, ho, hl, hp⟩ := hr
  refine ⟨v, len, ptrs, ?_, ?_, ?_, hl, ?_⟩
  · rw [ht.cell _ (by omega) (by omega)]; exact c1
  · rw [ht.cell _ (by omega) (by omega)]; exact c2
  · refine own_keep ho fun k hk => ?_
    have h1 := ho.lt k hk
    refine ht.block k h1.2 (by omega) ?_
    rcases hap v c1 with e | e
    · rw [e] at hk; cases hk
    · rw [hk] at e; exact e
  · intro p hpl
    obtain ⟨m, e1, e2, e3⟩ := hp p hpl
    refine ⟨m, e1, e2, e3.keep ?_⟩
    obtain ⟨cur, hm, _⟩ := e3
    refine ht.block m (heap_lt hm) (by omega) ?_
    intro e
    obtain ⟨cur2, h2⟩ := hob m e.symm
    rw [h2] at hm
    simp at hm

/-- THE STEP ON ONE FIFO: the others stay. -/
theorem Rows'.turn {w w' : World} {B n j : Nat} {ρ : Nat → List Int} {hd : Nat → Nat → Prop} {ob : Option Nat} {xs : List Int} {h : Nat} (H : Rows' w B n ρ hd) (hj : j < n) (ht : Turn w w' B j ob)
    (hob : ∀ v, w.cell? ⟨B + 1, j * 2, none⟩ = some v → v.ownBlock = ob) (hr : Row w' B j xs h)
    (hnew : ∀ v', w'.cell? ⟨B + 1, j * 2, none⟩ = some v' → v'.ownBlock = ob ∨ ∀ k, v'.ownBlock = some k → w.heap.size ≤ k) (hd' : Nat → Nat → Prop) (hh : hd' j h) (hdd : ∀ i k, i ≠ j → hd i k → hd' i k) :
    Rows' w' B n (fun i => if i = j then xs else ρ i) hd' := by
  obtain ⟨h0, _, vj, lenj, ptrsj, cj, _, hoj, _⟩ := H.row j hj
  have hobj := hob vj cj
  have hobT : ∀ k, ob = some k → ∃ cur, w.heap[k]? = some (.cells cur 91 (0, 0)) := fun k hk => own_type hoj (hobj.trans hk)
  have hold : ∀ i, i < n → i ≠ j → ∀ vi, w.cell? ⟨B + 1, i * 2, none⟩ = some vi → vi.ownBlock = none ∨ vi.ownBlock ≠ ob := fun i hi hij vi hvi => by
    have := H.apart i j hi hj hij vi vj hvi cj
    rw [hobj] at this
    exact this
  have hcell : ∀ i, i ≠ j → w'.cell? ⟨B + 1, i * 2, none⟩ = w.cell? ⟨B + 1, i * 2, none⟩ := fun i hij => ht.cell _ (by omega) (by omega)
  have hlt : ∀ i, i < n → ∀ vi k, w.cell? ⟨B + 1, i * 2, none⟩ = some vi → vi.ownBlock = some k → k < w.heap.size := by
    intro i hi vi k hvi hk
    obtain ⟨_, _, v, _, _, c, _, ho, _⟩ := H.row i hi
    rw [c] at hvi
    obtain rfl := Option.some.inj hvi
    exact (ho.lt k hk).2
  refine ⟨?_, ?_, ?_⟩
  · intro i hi
    by_cases e : i = j
    · subst e
      exact ⟨h, hh, by simpa using hr⟩
    · obtain ⟨k, hk, hrow⟩ := H.row i hi
      refine ⟨k, hdd i k e hk, ?_⟩
      simp only [if_neg e]
      exact hrow.turn e ht hobT (hold i hi e)
  · intro i k hi hk hik vi vk hvi hvk
    by_cases ei : i = j
    · subst ei
      have hvk' : w.cell? ⟨B + 1, k * 2, none⟩ = some vk := by rw [← hcell k (fun e => hik e.symm)]; exact hvk
      rcases hnew vi hvi with e | e
      · rw [e]
        rcases hold k hk (fun e => hik e.symm) vk hvk' with e2 | e2
        · rw [e2]; cases ob <;> simp
        · exact .inr (fun h => e2 h.symm)
      · cases hb : vi.ownBlock with
        | none => exact .inl rfl
        | some q =>
          right
          intro h
          have h1 := e q hb
          have h2 := hlt k hk vk q hvk' h.symm
          omega
    · have hvi' : w.cell? ⟨B + 1, i * 2, none⟩ = some vi := by rw [← hcell i ei]; exact hvi
      by_cases ek : k = j
      · subst ek
        rcases hnew vk hvk with e | e
        · rw [e]; exact hold i hi ei vi hvi'
        · cases hb : vi.ownBlock with
          | none => exact .inl rfl
          | some q =>
            right
            intro h
            have h1 := e q h.symm
            have h2 := hlt i hi vi q hvi' hb
            omega
      · exact H.apart i k hi hk hik vi vk hvi' (by rw [← hcell k ek]; exact hvk)
  · obtain ⟨cur, hc1, hc2⟩ := H.blk
    obtain ⟨cur', h1, h2⟩ := ht.blk cur hc1
    exact ⟨cur', h1, by omega⟩

theorem Turn.below {w w' : World} {B j : Nat} {ob : Option Nat} (ht : Turn w w' B j ob) (hB : B + 1 ≤ w.heap.size) (hob : ∀ k, ob = some k → B + 2 ≤ k) : Below (B + 1) w w' :=
  ⟨ht.os, ht.tape, ht.output, ht.size, fun k hk => ht.block k (by omega) (by omega) (fun e => by have := hob k e.symm; omega)⟩

end Go.Proofs.Qxb6601533a
