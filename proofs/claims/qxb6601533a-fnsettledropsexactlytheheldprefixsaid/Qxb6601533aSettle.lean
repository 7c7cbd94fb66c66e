/- THE WALKS OF settle, ZZSettle. By an AI agent. -/
import Derived.Test.Qxb6601533aFifo
import Derived.Test.Qxb6601533aPlain
namespace Go.Proofs.Qxb6601533a
open Go.RowKit
set_option linter.unusedVariables false
set_option linter.unusedSimpArgs false

theorem Rows'.congr2 {w : World} {B n : Nat} {ρ ρ' : Nat → List Int} {hd hd' : Nat → Nat → Prop} (H : Rows' w B n ρ hd) (h : ∀ i, i < n → ρ i = ρ' i) (h2 : ∀ i k, i < n → hd i k → hd' i k) : Rows' w B n ρ' hd' :=
  ⟨fun j hj => by obtain ⟨k, e1, e2⟩ := H.row j hj; exact ⟨k, h2 j k hj e1, by rw [← h j hj]; exact e2⟩, H.apart, H.blk⟩
theorem Rows'.drewN {w : World} {B n : Nat} {ρ : Nat → List Int} {hd : Nat → Nat → Prop} (H : Rows' w B n ρ hd) (q : Nat) : Rows' (w.drewN q) B n ρ hd := ⟨H.row, H.apart, H.blk⟩

/-- The heads when the fifos below j are settled. -/
def hdAt (j : Nat) (i h : Nat) : Prop := (j ≤ i → h = 0) ∧ h ≤ 131072

/-- The Seqs when the fifos below j are settled. -/
def upS (self : Int) (last : List Int) (held : List (List Int)) (ρ : Nat → List Int) (j i : Nat) : List Int := if i < j then settled self last held i (ρ i) else ρ i

/-- One fifo settled. -/
theorem settle_step {self : Int} {last : List Int} {held : List (List Int)} {ρ : Nat → List Int} {wr w' : World} {B n j k q : Nat} (H : Rows' wr B n (upS self last held ρ j) (hdAt j)) (hj : j < n) (hrow : Row wr B j (ρ j) 0) (hlen : (ρ j).length ≤ 131072)
    (hd : Dropped (wr.drewN q) w' B j k (ρ j)) (hk : lead (ev self last held j) (ρ j) = k) : Rows' w' B n (upS self last held ρ (j + 1)) (hdAt (j + 1)) ∧ Below (B + 1) (wr.drewN q) w' := by
  obtain ⟨h, ob, r1, r2, T, o1, o2⟩ := hd
  obtain ⟨v, len, ptrs, c1, c2, ho, _, _⟩ := hrow
  have hob : v.ownBlock = ob := o1 v c1
  refine ⟨?_, T.below ?_ ?_⟩
  · refine ((H.drewN q).turn hj T o1 r1 (fun v' hv' => .inl (o2 v' hv')) (hdAt (j + 1)) ⟨fun hi => by omega, by omega⟩ (fun i m hne hh => ⟨fun hi => hh.1 (by omega), hh.2⟩)).congr2 (fun i _ => ?_) (fun _ _ _ h => h)
    by_cases e : i = j
    · subst e; simp [upS, settled, hk]
    · simp only [if_neg e, upS]
      by_cases e1 : i < j
      · rw [if_pos e1, if_pos (by omega)]
      · rw [if_neg e1, if_neg (by omega)]
  · obtain ⟨cur, h1, _⟩ := H.blk
    have h2 := heap_lt h1
    show B + 1 ≤ wr.heap.size
    omega
  · intro m hm
    exact (ho.lt m (hob.trans hm)).1

set_option maxRecDepth 10000 in
set_option maxHeartbeats 16000000 in
theorem settle_any (B n : Nat) (self : Int) (a1 a2 : Option Addr) (l1 c1 l2 c2 : Nat) (last : List Int) (held : List (List Int)) (ρ : Nat → List Int) (wb w : World) (hwb : wb.heap.size = B) (hbel : Below B wb w)
    (hled : LedB w B self (.slice a1 l1 c1) (.slice a2 l2 c2) n) (hrows : Rows' w B n ρ (fun _ h => h = 0)) (hl : Came wb a1 l1 last) (hh : CameM wb a2 l2 held) (hl1 : l1 ≤ 65536) (hl2 : l2 ≤ 65536) (hn : n ≤ 65536)
    (hρ : ∀ j, j < n → (ρ j).length ≤ 131072) (hneed : ∀ j, j < n → ρ j ≠ [] → j < l1 ∧ ∀ i, i < held.length → (i : Int) ≠ self → j < (held.getD i []).length) :
    Calls Try.prog 43 #[.pointer (some ⟨B, 0, none⟩)] w fun e w' => e = .returned (.tuple #[]) ∧ Rows' w' B n (fun j => settled self last held j (ρ j)) (hdAt n) ∧ Below (B + 1) w w' := by
  have HW := hid hwb
  have HBl := hid hbel
  have HLd := hid hled
  have HL := hid hl
  have HH := hid hh
  have HRo := hid hρ
  have HN := hid hneed
  have HR0 : Hid (Rows' w B n (upS self last held ρ 0) (hdAt 0)) := hrows.congr2 (fun i _ => by simp [upS]) (fun i k _ h => ⟨fun _ => h, by omega⟩)
  have q5 : w.cell? ⟨B, 5, none⟩ = some (.slice (some ⟨B + 1, 0, none⟩) n n) := by rw [cell_of_row _ _ _ _ _ _ hled]; rfl
  clear hwb hbel hled hl hh hρ hneed hrows
  go_enter Try.func43, Try.ntmps43
  go_wp2
  go_loopw [13] (fun sj wr => ∃ j : Nat, j ≤ n ∧ sj = .int .i64 j ∧ Hid (Rows' wr B n (upS self last held ρ j) (hdAt j) ∧ Below (B + 1) w wr)) (fun sj _ => n - (intOf sj).toNat)
  case atStart => exact ⟨0, by omega, rfl, HR0.out, Below.refl _ _⟩
  case round =>
    obtain ⟨j, hj, rfl, HR⟩ := hrel
    clear HR0 q5
    by_cases hlt : j < n
    · have hlt' : (j : Int) < (n : Int) := by omega
      have hblk : wr.heap[B]? = some (.cells #[.int .i64 self, .bool false, .slice none 0 0, .slice a1 l1 c1, .slice none 0 0, .slice (some ⟨B + 1, 0, none⟩) n n, .slice a2 l2 c2] 87 (0, 0)) := (HR.out.2.block B (Nat.lt_succ_self _)).trans HLd.out
      have k0 : wr.cell? ⟨B, 0, none⟩ = some (.int .i64 self) := by rw [cell_of_row _ _ _ _ _ _ hblk]; rfl
      have k3 : wr.cell? ⟨B, 3, none⟩ = some (.slice a1 l1 c1) := by rw [cell_of_row _ _ _ _ _ _ hblk]; rfl
      have k5 : wr.cell? ⟨B, 5, none⟩ = some (.slice (some ⟨B + 1, 0, none⟩) n n) := by rw [cell_of_row _ _ _ _ _ _ hblk]; rfl
      have k6 : wr.cell? ⟨B, 6, none⟩ = some (.slice a2 l2 c2) := by rw [cell_of_row _ _ _ _ _ _ hblk]; rfl
      have HBw : Hid (Below wb.heap.size wb wr) := by rw [HW.out]; exact HBl.out.trans (HR.out.2.mono (Nat.le_succ _))
      obtain ⟨h0, hh0, hrow0⟩ := HR.out.1.row j hlt
      have eρ : upS self last held ρ j j = ρ j := by simp [upS]
      obtain rfl : h0 = 0 := hh0.1 (Nat.le_refl _)
      rw [eρ] at hrow0
      have HRow := hid hrow0
      have HLn := HRo.out j hlt
      have AL := hid (all_any B j 0 (ρ j) wr hrow0 (by omega) (by omega))
      clear hblk hrow0 hh0 eρ
      go_wp2_with fail
      refine AL.out.mono ?_
      rintro e w' ⟨ao, c, rfl, hptr, q, rfl⟩
      have HPt := hid hptr
      clear hptr AL
      by_cases hem : (ρ j).length = 0
      · have te : (((ρ j).length : Int) == 0) = true := by rw [beq_iff_eq]; omega
        have P1 : Hid (Rows' (wr.drewN q) B n (upS self last held ρ (j + 1)) (hdAt (j + 1))) := by
          refine (HR.out.1.drewN q).congr2 (fun i _ => ?_) (fun i k _ h => ⟨fun hi => h.1 (by omega), h.2⟩)
          have e : ρ j = [] := List.eq_nil_of_length_eq_zero hem
          by_cases e1 : i < j
          · simp [upS, e1, show i < j + 1 by omega]
          · by_cases e2 : i = j
            · subst e2; simp [upS, e, settled_nil]
            · simp [upS, e1, show ¬ i < j + 1 by omega]
        have P2 : Hid (Below (B + 1) w (wr.drewN q)) := below_drewN HR.out.2 q
        clear HR HRow HPt hem
        go_wp2
        go_roundw
        case rel => exact ⟨j + 1, by omega, by go_num, P1.out, P2.out⟩
        case measure => simp [intOf]; omega
      · have te : (((ρ j).length : Int) == 0) = false := by rw [beq_eq_false_iff_ne]; omega
        obtain ⟨hjl, hjh⟩ := HN.out j hlt (fun e => hem (by rw [e]; rfl))
        obtain ⟨b1, o1, rfl, hc1⟩ := came_at HL.out (by omega)
        have kl := cell_later HBw.out (hc1 j hjl)
        have hjl' : (j : Int) < (l1 : Int) := by omega
        have HJH := hid hjh
        have hz0 : Hid (last.getD j 0 = evTo self last held j 0) := rfl
        rw [hz0.out] at kl
        generalize he0 : evTo self last held j 0 = e0 at kl
        have HE0 := hid he0
        clear hc1 hjh he0 hz0
        go_wp2_with fail
        go_loop [4, 38] (fun se si => ∃ (i : Nat) (e : Int), i ≤ l2 ∧ si = .int .i64 i ∧ se = .int .u64 e ∧ Hid (evTo self last held j i = e)) (fun _ si => l2 - (intOf si).toNat)
        case atStart => exact ⟨0, e0, by omega, rfl, rfl, HE0⟩
        case round =>
          obtain ⟨i, e, hi, rfl, rfl, HE⟩ := hrel
          clear HE0
          by_cases hil : i < l2
          · have hil' : (i : Int) < (l2 : Int) := by omega
            obtain ⟨b2, o2, rfl, hc2⟩ := cameM_at HH.out (by omega)
            obtain ⟨ar, lr, cr, hcx0, hrw⟩ := hc2 i hil
            have hcx := cell_later HBw.out hcx0
            have HRw := hid hrw
            clear hc2 hcx0 hrw
            by_cases hself : (i : Int) = self
            · have tb : ((i : Int) != self) = false := by simpa using hself
              have HE2 : Hid (evTo self last held j (i + 1) = e) := by show _ = _; rw [evTo_self hself]; exact HE.out
              clear HE hself HRw
              go_wp2
              go_round
              case rel => exact ⟨i + 1, e, by omega, by go_num, rfl, HE2⟩
              case measure => simp [intOf]; omega
            · have tb : ((i : Int) != self) = true := by simpa using hself
              have hjr : j < lr := by have h1 := HJH.out i (by rw [HH.out.1]; exact hil) hself; rw [HRw.out.1] at h1; exact h1
              obtain ⟨b3, o3, rfl, hc3⟩ := came_at HRw.out (by omega)
              have k9 := cell_later HBw.out (hc3 j hjr)
              have hjr' : (j : Int) < (lr : Int) := by omega
              have HE2 := hid ((evTo_other (last := last) (held := held) (j := j) hself).trans (by rw [HE.out]))
              generalize (held.getD i []).getD j 0 = d at k9 HE2
              clear hc3 HE hself HRw
              by_cases hde : d < e
              · rw [if_pos hde] at HE2
                go_wp2
                go_round
                case rel => exact ⟨i + 1, d, by omega, by go_num, by simp [hde], HE2⟩
                case measure => simp [intOf]; omega
              · rw [if_neg hde] at HE2
                go_wp2
                go_round
                case rel => exact ⟨i + 1, e, by omega, by go_num, by simp [hde], HE2⟩
                case measure => simp [intOf]; omega
          · obtain rfl : i = l2 := by omega
            have HEv : Hid (ev self last held j = e) := by show _ = _; unfold ev; rw [HH.out.1]; exact HE.out
            clear HE
            go_wp2
            go_loop [7] (fun sk => ∃ k : Nat, k ≤ (ρ j).length ∧ sk = .int .i64 k ∧ Hid (∀ q, q < k → (ρ j).getD q 0 ≤ e)) (fun sk => (ρ j).length - (intOf sk).toNat)
            case atStart => exact ⟨0, by omega, rfl, fun q h => absurd h (Nat.not_lt_zero _)⟩
            case round =>
              obtain ⟨k, hk, rfl, F⟩ := hrel
              by_cases hkl : k < (ρ j).length
              · have hkl' : (k : Int) < ((ρ j).length : Int) := by omega
                obtain ⟨b4, o4, rfl, hc4⟩ := HPt.out (by omega)
                obtain ⟨m, k10, hmsg⟩ := hc4 k hkl
                have k11 := hmsg.cell
                have tk : decide ((k : Int) < ((ρ j).length : Int)) = true := by simpa using hkl'
                clear hc4 hmsg
                by_cases hle : (ρ j).getD k 0 ≤ e
                · have F2 : Hid (∀ q, q < k + 1 → (ρ j).getD q 0 ≤ e) := by
                    intro q hq
                    by_cases e1 : q = k
                    · subst e1; exact hle
                    · exact F.out q (by omega)
                  generalize (ρ j).getD k 0 = s at k11 hle
                  clear F
                  go_wp2
                  go_round
                  case rel => exact ⟨k + 1, by omega, by go_num, F2⟩
                  case measure => simp [intOf]; omega
                · have KE : Hid (lead (ev self last held j) (ρ j) = k) := by
                    show _ = _
                    rw [HEv.out]; exact lead_eq e (ρ j) k hk F.out (.inr (by omega))
                  generalize (ρ j).getD k 0 = s at k11 hle
                  have ts : decide (s ≤ e) = false := by simpa using hle
                  clear F
                  have DR := hid (drop_any B j k (ρ j) (wr.drewN q) HRow.out (by obtain ⟨cur, h1, _⟩ := HR.out.1.blk; exact ⟨cur, h1⟩) (by omega) (by omega) hk)
                  go_wp2_with fail
                  refine DR.out.mono ?_
                  rintro e w' ⟨rfl, hdr⟩
                  have S1 := hid (settle_step HR.out.1 hlt HRow.out (by omega) hdr KE.out)
                  have S2 := hid (HR.out.2.trans ((below_drewN (Below.refl _ _) q).trans S1.out.2))
                  clear hdr DR HR HRow HPt k0 k3 k5 k6 kl
                  go_wp2
                  go_roundw
                  case rel => exact ⟨j + 1, by omega, by go_num, S1.out.1, S2.out⟩
                  case measure => simp [intOf]; omega
              · have KE : Hid (lead (ev self last held j) (ρ j) = k) := by
                  show _ = _
                  rw [HEv.out]; exact lead_eq e (ρ j) k hk F.out (.inl (by omega))
                have tk : decide ((k : Int) < ((ρ j).length : Int)) = false := by simp; omega
                clear F
                have DR := hid (drop_any B j k (ρ j) (wr.drewN q) HRow.out (by obtain ⟨cur, h1, _⟩ := HR.out.1.blk; exact ⟨cur, h1⟩) (by omega) (by omega) hk)
                go_wp2_with fail
                refine DR.out.mono ?_
                rintro e w' ⟨rfl, hdr⟩
                have S1 := hid (settle_step HR.out.1 hlt HRow.out (by omega) hdr KE.out)
                have S2 := hid (HR.out.2.trans ((below_drewN (Below.refl _ _) q).trans S1.out.2))
                clear hdr DR HR HRow HPt k0 k3 k5 k6 kl
                go_wp2
                go_roundw
                case rel => exact ⟨j + 1, by omega, by go_num, S1.out.1, S2.out⟩
                case measure => simp [intOf]; omega
    · obtain rfl : j = n := by omega
      have P1 := hid (HR.out.1.congr2 (ρ' := fun j => settled self last held j (ρ j)) (fun i hi => by simp [upS, hi]) (fun i k _ h => h))
      have P2 := hid HR.out.2
      clear HR
      go_wp2
      go_end0
      exact ⟨rfl, P1.out, P2.out⟩

end Go.Proofs.Qxb6601533a
