/- cloneRowsB1 once more, with the caps of the rows that it makes. By an AI agent. -/
import Derived.Test.Qxb6601533aClone
namespace Go.Proofs.Qxb6601533a
open Go.RowKit
set_option linter.unusedVariables false
set_option linter.unusedSimpArgs false

/-- A row as the clone makes it. -/
def TidyR (ar : Option Addr) (lr cr : Nat) : Prop := lr ≤ cr ∧ ((ar = none ∧ lr = 0 ∧ cr = 0) ∨ ∃ g, ar = some ⟨g, 0, none⟩)

/-- A slice of slices, each with its cap. -/
def CameT (w : World) (a : Option Addr) (len : Nat) (rows : List (List Int)) : Prop :=
  rows.length = len ∧ (a = none → len = 0) ∧ ∀ x, a = some x → ∀ r, r < len → ∃ ar lr cr, w.cell? (x.add r) = some (.slice ar lr cr) ∧ Came w ar lr (rows.getD r []) ∧ TidyR ar lr cr

theorem CameT.toM {w : World} {a : Option Addr} {len : Nat} {rows : List (List Int)} (h : CameT w a len rows) : CameM w a len rows :=
  ⟨h.1, h.2.1, fun x hx r hr => by obtain ⟨ar, lr, cr, h1, h2, _⟩ := h.2.2 x hx r hr; exact ⟨ar, lr, cr, h1, h2⟩⟩
theorem cameT_later {w w1 : World} {a : Option Addr} {len : Nat} {rows : List (List Int)} (h : CameT w a len rows) (hb : Below w.heap.size w w1) : CameT w1 a len rows :=
  ⟨h.1, h.2.1, fun x hx r hr => by
    obtain ⟨ar, lr, cr, h0, h1, h2⟩ := h.2.2 x hx r hr
    exact ⟨ar, lr, cr, cell_later hb h0, came_later h1 hb, h2⟩⟩
theorem cameT_at {w : World} {a : Option Addr} {len : Nat} {rows : List (List Int)} (h : CameT w a len rows) (hl : 0 < len) :
    ∃ b off, a = some ⟨b, off, none⟩ ∧ ∀ r, r < len → ∃ ar lr cr, w.cell? ⟨b, off + r, none⟩ = some (.slice ar lr cr) ∧ Came w ar lr (rows.getD r []) ∧ TidyR ar lr cr := by
  obtain ⟨h1, h2, h3⟩ := h
  cases a with
  | none => have := h2 rfl; omega
  | some x =>
    have hc := h3 x rfl
    obtain ⟨b, off, spot⟩ := x
    obtain ⟨ar, lr, cr, h0, _⟩ := hc 0 hl
    obtain rfl : spot = none := by simpa [Addr.add] using World.cell?_spot h0
    refine ⟨b, off, rfl, fun r hr => ?_⟩
    obtain ⟨ar, lr, cr, h0, h1⟩ := hc r hr
    exact ⟨ar, lr, cr, by simpa [Addr.add_lit] using h0, h1⟩

theorem own_tidy {w : World} {B n : Nat} {v : Value} {xs : List Int} (h : w.ownsRow B 22 1 v n (ints xs)) (hb : ∀ x ∈ xs, 0 ≤ x ∧ x ≤ 18446744073709551615) :
    ∃ ao c, v = .slice ao n c ∧ Came w ao n xs ∧ (∀ ad, ao = some ad → B ≤ ad.block) ∧ TidyR ao n c := by
  have hl : xs.length = n := by have := h.1; rw [ints_length] at this; omega
  rcases h.2 with ⟨rfl, hz⟩ | ⟨g, cap, cur, rfl, hB, hg, hnc, _⟩
  · refine ⟨none, 0, by rw [hz], ⟨hl, fun _ => hz, ?_, hb⟩, ?_, by omega, .inl ⟨rfl, hz, rfl⟩⟩
    · intro x hx; cases hx
    · intro x hx; cases hx
  · refine ⟨some ⟨g, 0, none⟩, cap, rfl, ⟨hl, ?_, ?_, hb⟩, ?_, by omega, .inr ⟨g, rfl⟩⟩
    · intro hx; cases hx
    · intro x hx i hi
      obtain rfl := Option.some.inj hx
      rw [Addr.add_lit, Nat.zero_add]
      exact own_cell h i hi
    · intro x hx
      obtain rfl := Option.some.inj hx
      exact hB

/-- The rows cloned so far. -/
def ClonedT (w : World) (O i : Nat) (cells : List Value) (rows : List (List Int)) : Prop :=
  ∀ r, r < i → ∃ ar lr cr, cells[r]? = some (.slice ar lr cr) ∧ Came w ar lr (rows.getD r []) ∧ (∀ ad, ar = some ad → O < ad.block) ∧ TidyR ar lr cr

theorem clonedT_step {w w1 : World} {O i len : Nat} {cells : List Value} {rows : List (List Int)} {ao : Option Addr} {n c : Nat} (h : ClonedT w O i cells rows) (hb : Below w.heap.size w w1) (hl : cells.length = len) (hi : i < len)
    (hc : Came w1 ao n (rows.getD i [])) (ho : ∀ ad, ao = some ad → O < ad.block) (ht : TidyR ao n c) : ClonedT (w1.setCell ⟨O, i, none⟩ (.slice ao n c)) O (i + 1) (cells.set i (.slice ao n c)) rows := by
  intro r hr
  by_cases e : r = i
  · subst e
    exact ⟨ao, n, c, by rw [List.getElem?_set_self (by omega)], came_set hc ho, ho, ht⟩
  · obtain ⟨ar, lr, cr, h1, h2, h3⟩ := h r (by omega)
    exact ⟨ar, lr, cr, by rw [List.getElem?_set_ne (by omega)]; exact h1, came_set (came_later h2 hb) h3.1, h3⟩

set_option maxHeartbeats 1000000 in
theorem cloneRows_tidy (a : Option Addr) (len cap : Nat) (rows : List (List Int)) (w : World) (hx : CameM w a len rows) (hl : len ≤ 1048576) (hr : ∀ r, r < rows.length → (rows.getD r []).length ≤ 1048576) :
    Calls Try.prog 30 #[.slice a len cap] w fun e w' => ∃ ao c, e = .returned (.slice ao len c) ∧ CameT w' ao len rows ∧ Below w.heap.size w w' := by
  obtain ⟨i0, hi, hz0, hz1, hz2⟩ := info_parts info54
  have HX := hid hx
  have HRl := hid hr
  clear hx hr
  cases a with
  | none =>
    obtain rfl := HX.out.2.1 rfl
    have hnil : ∀ wx, _ := fun wx => Lib.run_eql_slice_nil (P := Try.prog) wx 55 54 none 0 cap 0 0 Try.underlying55
    go_enter Try.func30, Try.ntmps30
    go_wp2
    go_ret
    exact ⟨none, 0, rfl, ⟨HX.out.1, fun _ => rfl, fun x hx => by cases hx⟩, Below.refl _ _⟩
  | some x =>
    have hnil : ∀ wx, _ := fun wx => Lib.run_eql_slice_nil (P := Try.prog) wx 55 54 (some x) len cap 0 0 Try.underlying55
    go_enter Try.func30, Try.ntmps30
    go_wp2_with (at_make; refine wpList_make_full _ rfl _ _ 55 rfl w.heap.size 54 i0 (.slice none 0 0) 1 Try.underlying55 hi hz0 hz1 _ _ _ _ len rfl rfl (by omega) (by omega) ?b2 ?b3 (Nat.le_refl _) ?_)
    case b2 => rw [hz2]; omega
    case b3 => unfold maxLen; omega
    intro w0 hown0 hgrow0
    have hB0 : Below w.heap.size w w0 := (Below.refl _ _).grown hgrow0 (Nat.le_refl _) (fun k h => by cases h)
    clear hnil
    go_wp2_with fail
    go_loopw [12] (fun si wr => ∃ (i : Nat) (cells : List Value), i ≤ len ∧ si = .int .i64 i ∧ wr.ownsRow w.heap.size 54 1 (.slice (some ⟨w.heap.size, 0, none⟩) len len) len cells ∧ Below w.heap.size w wr ∧ Hid (ClonedT wr w.heap.size i cells rows))
      (fun si _ => len - (intOf si).toNat)
    case atStart => exact ⟨0, _, by omega, rfl, hown0, hB0, fun r h => absurd h (Nat.not_lt_zero _)⟩
    case round =>
      obtain ⟨i, cells, hi, rfl, hown, hbel, HC⟩ := hrel
      clear hown0 hgrow0 hB0
      have hO : w.heap.size < wr.heap.size := (hown.lt w.heap.size rfl).2
      by_cases hlt : i < len
      · obtain ⟨b, off, hxx, hc⟩ := cameM_at HX.out (by omega)
        obtain rfl := Option.some.inj hxx
        obtain ⟨ar, lr, cr, hcx0, hrow⟩ := hc i hlt
        have hcx := cell_later hbel hcx0
        have hlr : lr ≤ 1048576 := by have h1 := HRl.out i (by rw [HX.out.1]; exact hlt); rw [hrow.1] at h1; exact h1
        have K := hid (copy_any ar lr cr (rows.getD i []) wr (came_later hrow hbel) hlr)
        have HW := hid hrow.2.2.2
        have HO := hid hown
        have HB := hid hbel
        have hcl : cells.length = len := by have := hown.1; omega
        have HL := hid hcl
        clear hc hcx0 hrow hown hbel hcl hxx
        go_wp2_with fail
        refine K.out.mono ?_
        rintro e w1 ⟨v, rfl, hown1, hbel1⟩
        obtain ⟨ao, c, rfl, hcame, hge, htd⟩ := own_tidy hown1 HW.out
        have hown2 := own_below HO.out hbel1
        have hB2 := HB.out.trans (hbel1.mono HB.out.size)
        have hold : ∃ u, w1.cell? ⟨w.heap.size, i, none⟩ = some u := by
          rw [rows_cells hown2 i hlt]; exact ⟨_, List.getElem?_eq_getElem (by rw [HL.out]; exact hlt)⟩
        obtain ⟨u, hu⟩ := hold
        have hf : w1.frozen? ⟨w.heap.size, i, none⟩ = false := hown2.frozenAt i
        have R1 := hid (hown2.stored i (.slice ao lr c)).1
        have R2 := hid (hB2.setCell (p := ⟨w.heap.size, i, none⟩) (Nat.le_refl _) (.slice ao lr c))
        have R3 := hid (clonedT_step (c := c) HC.out hbel1 HL.out hlt hcame (fun ad h => by have := hge ad h; omega) htd)
        clear hown1 hbel1 hcame hge hown2 hB2 HC K htd
        go_wp2
        go_roundw
        case rel => exact ⟨i + 1, _, by omega, by go_num, R1.out, R2.out, R3⟩
        case measure => simp [intOf]; omega
      · obtain rfl : i = len := by omega
        have HO := hid hown
        have HB := hid hbel
        clear hown hbel
        go_wp2
        go_ret
        refine ⟨_, _, rfl, ⟨HX.out.1, (fun h => by cases h), ?_⟩, HB.out⟩
        intro ad had r hr
        obtain rfl := Option.some.inj had
        obtain ⟨ar, lr, cr, h1, h2, _, h4⟩ := HC.out r hr
        exact ⟨ar, lr, cr, by rw [Addr.add_lit, Nat.zero_add, rows_cells HO.out r hr]; exact h1, h2, h4⟩

end Go.Proofs.Qxb6601533a
