/- SHARED: small laws on worlds; the walks of the copies and the appends that the laws' own Go text makes. By an AI agent. -/
import Derived.Test.Qxb6601533aRows
import Derived.WalkKit
import Derived.WalkSpells
import Derived.WalkLawsBesides
namespace Go.Proofs.Qxb6601533a
open Go.RowKit
set_option linter.unusedVariables false
set_option linter.unusedSimpArgs false

theorem info22 : (Try.prog.info? 22).map (fun i => (i.zero, i.size, i.bytes)) = some (some (.int .u64 0), 1, 8) := by kernel_rfl

/-- A slice of uint64 that came in. -/
def Came (w : World) (a : Option Addr) (len : Nat) (xs : List Int) : Prop :=
  xs.length = len ∧ (a = none → len = 0) ∧ (∀ x, a = some x → ∀ i, i < len → w.cell? (x.add i) = some (.int .u64 (xs.getD i 0))) ∧ ∀ n ∈ xs, 0 ≤ n ∧ n ≤ 18446744073709551615

def ints (xs : List Int) : List Value := xs.map (Value.int .u64)
theorem ints_length (xs : List Int) : (ints xs).length = xs.length := by simp [ints]
theorem ints_nil : ints [] = [] := rfl
theorem ints_append (xs ys : List Int) : ints (xs ++ ys) = ints xs ++ ints ys := by simp [ints]
theorem ints_snoc (xs : List Int) (c : Int) : ints xs ++ [.int .u64 c] = ints (xs ++ [c]) := by simp [ints]
theorem take_snoc (ys : List Int) (j : Nat) (h : j < ys.length) : ys.take (j + 1) = ys.take j ++ [ys.getD j 0] := by
  rw [List.take_succ_eq_append_getElem h]; simp [List.getD, h]

theorem grownBy_trans {w w1 w2 : World} {row : Option Nat} (h : w.grownBy w1 row) (k : w1.grownBy w2 row) : w.grownBy w2 row :=
  ⟨k.os.trans h.os, k.tape.trans h.tape, k.output.trans h.output, Nat.le_trans h.size k.size, fun i hi hr => (k.block i (Nat.lt_of_lt_of_le hi h.size) hr).trans (h.block i hi hr)⟩

theorem own_below {w w' : World} {B e size n : Nat} {v : Value} {xs : List Value} (h : w.ownsRow B e size v n xs) (hb : Below w.heap.size w w') : w'.ownsRow B e size v n xs := by
  refine ⟨h.1, ?_⟩
  rcases h.2 with hn | ⟨g, cap, cur, rfl, hg, hgg, rest⟩
  · exact .inl hn
  · exact .inr ⟨g, cap, cur, rfl, hg, by rw [hb.block g (Array.getElem?_eq_some_iff.1 hgg).1]; exact hgg, rest⟩

/-- The numbers of an owned row, cell by cell. -/
theorem own_cell {w : World} {B g n cap : Nat} {xs : List Int} (h : w.ownsRow B 22 1 (.slice (some ⟨g, 0, none⟩) n cap) n (ints xs)) (j : Nat) (hj : j < n) : w.cell? ⟨g, j, none⟩ = some (.int .u64 (xs.getD j 0)) := by
  have h1 := h.1
  rw [h.cellAt j (by omega)]
  rw [ints_length] at h1
  simp [ints, List.getD, show j < xs.length by omega]

theorem ints_set (xs ys : List Int) (k : Nat) (hk : k < xs.length) (hl : ys.length = xs.length) :
    ((ints (ys.take k ++ xs.drop k)).set k (.int .u64 (ys.getD k 0))) = ints (ys.take (k + 1) ++ xs.drop (k + 1)) := by
  have hy : k < ys.length := by omega
  have e1 : (ys.take k).length = k := by rw [List.length_take]; omega
  have e3 : xs.drop k = xs[k] :: xs.drop (k + 1) := List.drop_eq_getElem_cons hk
  have e4 : ys.take (k + 1) = ys.take k ++ [ys[k]] := by rw [List.take_succ_eq_append_getElem hy]
  have e5 : ys.getD k 0 = ys[k] := by simp [List.getD, hy]
  have e6 : ((ys.take k).map (Value.int .u64)).length = k := by rw [List.length_map]; exact e1
  rw [e3, e4, e5]
  simp only [ints, List.map_append, List.map_cons, List.map_nil, List.append_assoc]
  rw [List.set_append_right _ _ (by omega), e6, Nat.sub_self, List.set_cons_zero]
  rfl

set_option maxHeartbeats 400000 in
theorem copy_any (a : Option Addr) (len cap : Nat) (xs : List Int) (w : World) (hx : Came w a len xs) (hl : len ≤ 1048576) :
    Calls Try.prog 29 #[.slice a len cap] w fun e w' => ∃ v, e = .returned v ∧ w'.ownsRow w.heap.size 22 1 v len (ints xs) ∧ Below w.heap.size w w' := by
  obtain ⟨i0, hi, hz0, hz1, hz2⟩ := info_parts info22
  obtain ⟨hlen, hnone, hcell, _⟩ := hx
  cases a with
  | none =>
    obtain rfl := hnone rfl
    have hnil : ∀ wx, _ := fun wx => Lib.run_eql_slice_nil (P := Try.prog) wx 54 22 none 0 cap 0 0 Try.underlying54
    go_enter Try.func29, Try.ntmps29
    go_wp2
    go_ret
    refine ⟨_, rfl, ?_, Below.refl _ _⟩
    obtain rfl := List.eq_nil_of_length_eq_zero hlen
    exact World.ownsRow_nil _ _ _ _
  | some x =>
    have hc := hcell x rfl
    clear hcell hnone
    obtain ⟨b, off, spot⟩ := x
    have hnil : ∀ wx, _ := fun wx => Lib.run_eql_slice_nil (P := Try.prog) wx 54 22 (some ⟨b, off, spot⟩) len cap 0 0 Try.underlying54
    go_enter Try.func29, Try.ntmps29
    go_wp2_with (at_make; refine wpList_make_full _ rfl _ _ 54 rfl w.heap.size 22 i0 (.int .u64 0) 1 Try.underlying54 hi hz0 hz1 _ _ _ _ len rfl rfl (by omega) (by omega) ?b2 ?b3 (Nat.le_refl _) ?_)
    case b2 => rw [hz2]; omega
    case b3 => unfold maxLen; omega
    intro w0 hown0 hgrow0
    have e0 : (madeCells #[Value.int IntKind.u64 0] len).toList = ints (xs.take 0 ++ (List.replicate len 0).drop 0) := by
      simp [ints, Value.cells, toList_madeCells_one]
    rw [e0] at hown0
    clear e0 hnil
    go_wp2
    go_loopw [12] (fun i wr => ∃ k : Nat, k ≤ len ∧ i = .int .i64 k ∧ wr.ownsRow w.heap.size 22 1 (.slice (some ⟨w.heap.size, 0, none⟩) len len) len (ints (xs.take k ++ (List.replicate len 0).drop k)) ∧ Below w.heap.size w wr)
      (fun i _ => len - (intOf i).toNat)
    case atStart => exact ⟨0, Nat.zero_le _, rfl, hown0, (Below.refl _ _).grown hgrow0 (Nat.le_refl _) (fun k h => by cases h)⟩
    case round =>
      obtain ⟨k, hk, rfl, hown, hbel⟩ := hrel
      clear hown0 hgrow0
      by_cases hlt : k < len
      · obtain rfl : spot = none := by simpa [Addr.add] using World.cell?_spot (hc 0 (by omega))
        have h1 : w.cell? ⟨b, off + k, none⟩ = some (.int .u64 (xs.getD k 0)) := by simpa [Addr.add_lit] using hc k hlt
        have hcx : wr.cell? ⟨b, off + k, none⟩ = some (.int .u64 (xs.getD k 0)) := cell_later hbel h1
        have ho : ∃ u, wr.cell? ⟨w.heap.size, k, none⟩ = some u := ⟨_, own_cell hown k hlt⟩
        have hf : wr.frozen? ⟨w.heap.size, k, none⟩ = false := hown.frozenAt k
        have R := hown.stored k (.int .u64 (xs.getD k 0))
        rw [ints_set (List.replicate len 0) xs k (by simpa using hlt) (by simpa using hlen)] at R
        have R' := hbel.setCell (p := ⟨w.heap.size, k, none⟩) (Nat.le_refl _) (.int .u64 (xs.getD k 0))
        generalize xs.getD k 0 = c at h1 hcx R R'
        obtain ⟨u, hu⟩ := ho
        clear hc h1 hown hbel
        go_wp2
        go_roundw
        case rel => exact ⟨k + 1, by omega, by go_num, R.1, R'⟩
        case measure => simp [intOf]; omega
      · go_wp2
        go_ret
        refine ⟨_, rfl, ?_, hbel⟩
        obtain rfl : k = len := by omega
        rw [List.drop_of_length_le (by simp), List.take_of_length_le (by omega), List.append_nil] at hown
        exact hown

end Go.Proofs.Qxb6601533a
