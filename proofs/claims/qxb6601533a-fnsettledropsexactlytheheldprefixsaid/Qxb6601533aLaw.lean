/- THE WALK OF THE LAW. By an AI agent. -/
import Derived.Test.Qxb6601533aTidy
import Derived.Test.Qxb6601533aFits
import Derived.Test.Qxb6601533aNewLed
import Derived.Test.Qxb6601533aKept
import Derived.Test.Qxb6601533aCmp
namespace Go.Proofs.Qxb6601533a
open Go.RowKit
set_option linter.unusedVariables false
set_option linter.unusedSimpArgs false

theorem later {w w1 w2 : World} (h1 : Below w.heap.size w w1) (h2 : Below w1.heap.size w1 w2) : Below w.heap.size w w2 := h1.trans (h2.mono h1.size)

theorem came_drop {w : World} {g lr i : Nat} {xs : List Int} (h : Came w (some ⟨g, 0, none⟩) lr xs) (hi : i ≤ lr) : Came w (some ⟨g, i, none⟩) (lr - i) (xs.drop i) := by
  refine ⟨by rw [List.length_drop, h.1], (fun h => by cases h), ?_, fun x hx => h.2.2.2 x (List.mem_of_mem_drop hx)⟩
  intro x hx k hk
  obtain rfl := Option.some.inj hx
  have h1 := h.2.2.1 _ rfl (i + k) (by omega)
  rw [Addr.add_lit] at h1 ⊢
  rw [Nat.zero_add] at h1
  rw [h1]
  simp [List.getD]

theorem came_none {w : World} {a : Option Addr} {lr i : Nat} {xs : List Int} (h : xs.length = lr) (hi : i = lr) : Came w a (lr - i) (xs.drop i) := by
  have e : xs.drop i = [] := List.drop_eq_nil_of_le (by omega)
  rw [e]
  refine ⟨by simp; omega, fun _ => by omega, fun x hx k hk => by omega, fun x hx => by cases hx⟩

/-- The rows after the settling. -/
def after (self : Int) (last : List Int) (held kept : List (List Int)) (j : Nat) : List Int := settled self last held j (kept.getD j [])

theorem after_range {self : Int} {last : List Int} {held kept : List (List Int)} (h : ∀ j, j < kept.length → ∀ x ∈ kept.getD j [], 0 ≤ x ∧ x ≤ 18446744073709551615) (j : Nat) (hj : j < kept.length) : ∀ x ∈ after self last held kept j, 0 ≤ x ∧ x ≤ 18446744073709551615 :=
  fun x hx => h j hj x (List.mem_of_mem_drop hx)
theorem after_len (self : Int) (last : List Int) (held kept : List (List Int)) (j : Nat) : (after self last held kept j).length ≤ (kept.getD j []).length := by
  unfold after settled; rw [List.length_drop]; omega

theorem cameT_range {w : World} {a : Option Addr} {len : Nat} {rows : List (List Int)} (h : CameM w a len rows) (j : Nat) (hj : j < rows.length) : ∀ x ∈ rows.getD j [], 0 ≤ x ∧ x ≤ 18446744073709551615 := by
  have hj' : j < len := by rw [← h.1]; exact hj
  obtain ⟨b, o, rfl, hc⟩ := cameM_at h (by omega)
  obtain ⟨ar, lr, cr, _, h2⟩ := hc j hj'
  exact h2.2.2.2

theorem range_getD (σ : Nat → List Int) (n r : Nat) (h : r < n) : ((List.range n).map σ).getD r [] = σ r := by simp [List.getD, h]

set_option maxRecDepth 10000 in
set_option maxHeartbeats 16000000 in
/-- THE SECOND HALF: from the clones on. -/
theorem law_any (self : Int) (a1 a2 a3 : Option Addr) (l1 c1 l2 c2 l3 c3 : Nat) (last : List Int) (held kept : List (List Int)) (w : World) (hl : Came w a1 l1 last) (hh : CameM w a2 l2 held) (hk : CameM w a3 l3 kept) :
    Calls Try.prog 5 #[.int .i64 self, .slice a1 l1 c1, .slice a2 l2 c2, .slice a3 l3 c3] w fun e w' => e = .returned (.bool true) ∧ Below w.heap.size w w' := by
  have Z := hid (zz_any self a1 a2 a3 l1 c1 l2 c2 l3 c3 held kept w hh hk)
  have F := hid (fits_any self a1 a2 a3 l1 c1 l2 c2 l3 c3 held kept w hh hk)
  have HL := hid hl
  have HH := hid hh
  have HK := hid hk
  clear hl hh hk
  go_enter Try.func5, Try.ntmps5
  go_wp2_with fail
  refine Z.out.mono ?_
  rintro e w' ⟨⟨b, rfl⟩, rfl⟩
  cases b with
  | false =>
    go_wp2
    go_ret
    exact ⟨rfl, Below.refl _ _⟩
  | true =>
  go_wp2_with fail
  refine F.out.mono ?_
  rintro e w' ⟨hf, rfl⟩
  rcases hf with rfl | ⟨rfl, f1, f2, f3, f4, f5, need, n1, n2, n3⟩
  · go_wp2
    go_ret
    exact ⟨rfl, Below.refl _ _⟩
  have hl2 : l2 ≤ 65536 := by rw [← HH.out.1]; exact f2
  have hl3 : l3 ≤ 65536 := by rw [← HK.out.1]; exact f3
  have HN : Hid (∀ j, j < l3 → kept.getD j [] ≠ [] → j < l1 ∧ ∀ i, i < held.length → (i : Int) ≠ self → j < (held.getD i []).length) := fun j hj hne => by
    have h1 := n1 j (by rw [HK.out.1]; exact hj) hne
    exact ⟨by omega, fun i hi hs => by have := n3 i hi hs; omega⟩
  have F4 := hid f4
  have F5 := hid f5
  have E2 := hid HH.out.1
  have E3 := hid HK.out.1
  have RK := hid (cameT_range HK.out)
  have RL := hid HL.out.2.2.2
  clear f2 f3 f4 f5 n1 n2 n3 Z F
  have C1 := hid (copy_any a1 l1 c1 last w HL.out (by omega))
  go_wp2_with fail
  refine C1.out.mono ?_
  rintro e w1 ⟨v1, rfl, ho1, b1⟩
  obtain ⟨ap, cp, rfl, hp1, _, _⟩ := own_tidy ho1 RL.out
  have C2 := hid (cloneRows_tidy a2 l2 c2 held w1 (cameM_later HH.out b1) (by omega) (fun r hr => by have := F4.out r hr; omega))
  have HB1 := hid b1
  have L1 := hid hp1
  have HK1 := hid (cameM_later HK.out b1)
  clear ho1 b1 hp1 C1 HL HH HK
  go_wp2_with fail
  refine C2.out.mono ?_
  rintro e w2 ⟨ah, ch, rfl, h2, b2⟩
  have C3 := hid (cloneRows_tidy a3 l3 c3 kept w2 (cameM_later HK1.out b2) (by omega) (fun r hr => by have := F5.out r hr; omega))
  have HB2 := hid (later HB1.out b2)
  have L2 := hid (came_later L1.out b2)
  have H2 := hid h2
  clear h2 b2 C2 HK1 HB1 L1
  go_wp2_with fail
  refine C3.out.mono ?_
  rintro e w3 ⟨ak, ck, rfl, k3, b3⟩
  have HB3 := hid (later HB2.out b3)
  have L3 := hid (came_later L2.out b3)
  have H3 := hid (cameT_later H2.out b3)
  have K3 := hid k3
  have C4 := hid (copy_any ap l1 cp last w3 L3.out (by omega))
  clear k3 b3 C3 HB2 L2 H2
  go_wp2_with fail
  refine C4.out.mono ?_
  rintro e w4 ⟨v4, rfl, ho4, b4⟩
  obtain ⟨aq, cq, rfl, hp4, _, _⟩ := own_tidy ho4 RL.out
  have HB4 := hid (later HB3.out b4)
  have L4 := hid (came_later L3.out b4)
  have H4 := hid (cameT_later H3.out b4)
  have K4 := hid (cameT_later K3.out b4)
  have LC4 := hid hp4
  have C5 := hid (cloneRows_tidy ah l2 ch held w4 H4.out.toM (by omega) (fun r hr => by have := F4.out r hr; omega))
  clear ho4 b4 hp4 C4 HB3 L3 H3 K3
  go_wp2_with fail
  refine C5.out.mono ?_
  rintro e w5 ⟨ag, cg, rfl, g5, b5⟩
  have HB5 := hid (later HB4.out b5)
  have L5 := hid (came_later L4.out b5)
  have H5 := hid (cameT_later H4.out b5).toM
  have K5 := hid (cameT_later K4.out b5)
  have LC5 := hid (came_later LC4.out b5)
  have HC5 := hid g5.toM
  have C6 := hid (newLed_any self aq ag ak l1 cq l2 cg l3 ck kept w5 (cameT_later K4.out b5).toM hl3 (fun r hr => F5.out r (by rw [E3.out]; exact hr)))
  clear g5 b5 C5 HB4 L4 H4 K4 LC4
  go_wp2_with fail
  refine C6.out.mono ?_
  rintro e w6 ⟨rfl, d1, d2, d3⟩
  have C7 := hid (zzSettle_any w5.heap.size l3 self aq ag l1 cq l2 cg last held (fun i => kept.getD i []) w5 w6 rfl d3 d1 d2 LC5.out HC5.out f1 hl2 hl3 (fun j hj => F5.out j (by rw [E3.out]; exact hj)) HN.out)
  have D1 := hid d1
  have D3 := hid d3
  clear d1 d2 d3 C6
  go_wp2_with fail
  refine C7.out.mono ?_
  rintro e w7 ⟨rfl, s1, s2⟩
  have hd7 : LedB w7 w5.heap.size self (.slice aq l1 cq) (.slice ag l2 cg) l3 := (s2.block _ (Nat.lt_succ_self _)).trans D1.out
  have C8 := hid (kept_any w5.heap.size l3 self _ _ (after self last held kept) w7 hd7 s1 hl3 (fun j hj => by have h1 := after_len self last held kept j; have h2 := F5.out j (by rw [E3.out]; exact hj); omega) (fun j hj => after_range RK.out j (by rw [E3.out]; exact hj)))
  have S2 := hid s2
  clear hd7 s1 s2 C7
  go_wp2_with fail
  refine C8.out.mono ?_
  rintro e w8 ⟨rfl, t1, t2⟩
  have hB58 : Below w5.heap.size w5 w8 := D3.out.trans ((S2.out.mono (Nat.le_succ _)).trans (t2.mono (Nat.le_trans D3.out.size S2.out.size)))
  have HB8 := hid (later HB5.out hB58)
  have L8 := hid (came_later L5.out hB58)
  have H8 := hid (cameM_later H5.out hB58)
  have K8 := hid (cameT_later K5.out hB58)
  have LC8 := hid (came_later LC5.out hB58)
  have HC8 := hid (cameM_later HC5.out hB58)
  have T8 := hid t1
  clear t1 t2 hB58 C8 HB5 L5 H5 K5 LC5 HC5 D1 D3 S2
  generalize w7.heap.size = O at *
  have tn : ((l3 : Int) != (l3 : Int)) = false := by simp
  go_wp2_with fail
  go_loopw [56] (fun sj wr => ∃ j : Nat, j ≤ l3 ∧ sj = .int .i64 j ∧ Hid (Below w8.heap.size w8 wr)) (fun sj _ => l3 - (intOf sj).toNat)
  case atStart => exact ⟨0, by omega, rfl, Below.refl _ _⟩
  case round =>
    obtain ⟨j, hj, rfl, HR⟩ := hrel
    by_cases hlt : j < l3
    · have hlt' : (j : Int) < (l3 : Int) := by omega
      obtain ⟨bk, ok, rfl, hck⟩ := cameT_at K8.out (by omega)
      obtain ⟨ar, lr, cr, hcx0, hrow, htd⟩ := hck j hlt
      have hcx := cell_later HR.out hcx0
      have HRow := hid (came_later hrow HR.out)
      have HTd := hid htd
      have hlr : lr ≤ 131072 := by have h1 := F5.out j (by rw [E3.out]; exact hlt); rw [hrow.1] at h1; exact h1
      obtain ⟨bo, oo, ho, hco⟩ := cameM_at T8.out (by omega)
      obtain ⟨hbo, hoo⟩ : O = bo ∧ 0 = oo := by simpa using ho
      obtain ⟨ay, ly, cy, hcy0, hry⟩ := hco j hlt
      subst hbo hoo
      rw [Nat.zero_add] at hcy0
      have hcy := cell_later HR.out hcy0
      have HRy := hid (came_later hry HR.out)
      have HNj := hid (HN.out j hlt)
      clear hck hcx0 hrow htd ho hco hcy0 hry
      go_wp2_with fail
      go_loop [15, 16] (fun ss si => ∃ i : Nat, i ≤ lr ∧ si = .int .i64 i ∧ ss = .int .i64 lr ∧ Hid (∀ q, q < i → (kept.getD j []).getD q 0 ≤ ev self last held j)) (fun _ si => lr - (intOf si).toNat)
      case atStart => exact ⟨0, by omega, rfl, rfl, fun q h => absurd h (Nat.not_lt_zero _)⟩
      case round =>
        obtain ⟨i, hi, rfl, rfl, FI⟩ := hrel
        by_cases hil : i < lr
        · have hil' : (i : Int) < (lr : Int) := by omega
          obtain ⟨b9, o9, rfl, hc9⟩ := came_at HRow.out (by omega)
          obtain rfl : o9 = 0 := by
            rcases HTd.out.2 with ⟨h1, _⟩ | ⟨g, h1⟩
            · cases h1
            · simp only [Option.some.injEq, Addr.mk.injEq, and_true] at h1; exact h1.2
          have k9 := hc9 i hil
          rw [Nat.zero_add] at k9
          have hne : kept.getD j [] ≠ [] := fun e => by have h1 := HRow.out.1; rw [e] at h1; simp at h1; omega
          clear hc9
          by_cases hev : (kept.getD j []).getD i 0 ≤ ev self last held j
          · have F2 : Hid (∀ q, q < i + 1 → (kept.getD j []).getD q 0 ≤ ev self last held j) := by
              intro q hq
              by_cases e1 : q = i
              · subst e1; exact hev
              · exact FI.out q (by omega)
            have HE := hid (held_any self ap ah l1 cp l2 ch j ((kept.getD j []).getD i 0) last held true wr (came_later L8.out HR.out) (cameM_later H8.out HR.out) (by omega) (by omega) (HNj.out hne).1 (HNj.out hne).2
              ⟨fun _ => (heldP_ev self last held j _).2 hev, fun _ => rfl⟩)
            generalize (kept.getD j []).getD i 0 = s at k9 HE
            clear FI hev hne
            go_wp2_with fail
            refine HE.out.mono ?_
            rintro e w' ⟨rfl, rfl⟩
            go_wp2
            go_round
            case rel => exact ⟨i + 1, by omega, by go_num, rfl, F2⟩
            case measure => simp [intOf]; omega
          · have HE := hid (held_any self ap ah l1 cp l2 ch j ((kept.getD j []).getD i 0) last held false wr (came_later L8.out HR.out) (cameM_later H8.out HR.out) (by omega) (by omega) (HNj.out hne).1 (HNj.out hne).2
              ⟨(fun h => by cases h), fun h => absurd ((heldP_ev self last held j _).1 h) hev⟩)
            have HX := hid (Int.not_le.1 hev)
            generalize (kept.getD j []).getD i 0 = s at k9 HE
            clear hev hne
            go_wp2_with fail
            refine HE.out.mono ?_
            rintro e w' ⟨rfl, rfl⟩
            clear HE
            have KE : Hid (after self last held kept j = (kept.getD j []).drop i) := by
              show _ = _
              unfold after settled
              rw [lead_eq (ev self last held j) (kept.getD j []) i (by rw [HRow.out.1]; exact hi) FI.out (.inr HX.out)]
            have HY : Hid (Came wr ay ly ((kept.getD j []).drop i)) := by
              have h1 := HRy.out
              rw [range_getD _ _ _ hlt, KE.out] at h1
              exact h1
            have hly : ly ≤ 1048576 := by have h1 := HY.out.1; have h2 := HRow.out.1; rw [List.length_drop, h2] at h1; omega
            have q1 : (0 : Int) ≤ (i : Int) := by omega
            have q2 : (i : Int) ≤ (lr : Int) := by omega
            have q3 : (lr : Int) ≤ (cr : Int) := by have := HTd.out.1; omega
            have hce : ¬ cr = i := by omega
            have SM : Hid (∀ n, Calls Try.prog 35 #[.slice ay ly cy, .slice (some ⟨b9, i, none⟩) (lr - i) (cr - i)] (wr.drewN n) fun e w' => e = .returned (.bool true) ∧ ∃ nq, w' = (wr.drewN n).drewN nq) := fun n =>
              same_eq _ _ _ _ _ _ ((kept.getD j []).drop i) (wr.drewN n) HY.out (came_drop HRow.out hi) hly
            clear KE FI HRy HRow HX
            go_wp2_with fail
            go_big_quiet ((go_at_call 35; exact Calls.quiet_of (SM.out _)))
            go_wp2
            go_roundw
            case rel => exact ⟨j + 1, by omega, by go_num, below_drewN HR.out _⟩
            case measure => simp [intOf]; omega
        · have hie : i = lr := by omega
          subst hie
          have KE : Hid (after self last held kept j = (kept.getD j []).drop i) := by
            show _ = _
            unfold after settled
            rw [lead_eq (ev self last held j) (kept.getD j []) i (by rw [HRow.out.1]; exact hi) FI.out (.inl HRow.out.1.symm)]
          have HY : Hid (Came wr ay ly ((kept.getD j []).drop i)) := by
            have h1 := HRy.out
            rw [range_getD _ _ _ hlt, KE.out] at h1
            exact h1
          have hly : ly ≤ 1048576 := by have h1 := HY.out.1; have h2 := HRow.out.1; rw [List.length_drop, h2] at h1; omega
          have q1 : (0 : Int) ≤ (i : Int) := by omega
          have q3 : (i : Int) ≤ (cr : Int) := by have := HTd.out.1; omega
          have HN0 : Hid (∀ (n : Nat) (a : Option Addr), Came (wr.drewN n) a 0 ((kept.getD j []).drop i)) := by
            intro n a
            have h1 := came_none (w := wr.drewN n) (a := a) HRow.out.1 rfl
            rw [Nat.sub_self] at h1
            exact h1
          have SM : Hid (∀ n a c, Calls Try.prog 35 #[.slice ay ly cy, .slice a 0 c] (wr.drewN n) fun e w' => e = .returned (.bool true) ∧ ∃ nq, w' = (wr.drewN n).drewN nq) := fun n a c =>
            same_eq _ _ _ _ _ _ ((kept.getD j []).drop i) (wr.drewN n) HY.out (HN0.out n a) hly
          have HZ := hid HRow.out.2.1
          clear KE FI HRy HRow HN0 HY
          by_cases hce : cr = i
          · go_wp2_with fail
            go_big_quiet ((go_at_call 35; exact Calls.quiet_of (SM.out _ _ _)))
            go_wp2
            go_roundw
            case rel => exact ⟨j + 1, by omega, by go_num, below_drewN HR.out _⟩
            case measure => simp [intOf]; omega
          · obtain ⟨g, rfl⟩ : ∃ g, ar = some ⟨g, 0, none⟩ := by
              rcases HTd.out.2 with ⟨_, h2, h3⟩ | h
              · exact absurd (by omega) hce
              · exact h
            go_wp2_with fail
            go_big_quiet ((go_at_call 35; exact Calls.quiet_of (SM.out _ _ _)))
            go_wp2
            go_roundw
            case rel => exact ⟨j + 1, by omega, by go_num, below_drewN HR.out _⟩
            case measure => simp [intOf]; omega
    · have SL := hid (same_eq aq ap l1 cq l1 cp last wr (came_later LC8.out HR.out) (came_later L8.out HR.out) (by omega))
      obtain rfl : j = l3 := by omega
      have t2 : ((l2 : Int) != (l2 : Int)) = false := by simp
      go_wp2_with fail
      refine SL.out.mono ?_
      rintro e w' ⟨rfl, nq, rfl⟩
      have HR9 := hid (below_drewN HR.out nq)
      clear HR SL
      go_wp2_with fail
      generalize wr.drewN nq = w9 at *
      go_loopw [105] (fun si wr => ∃ i : Nat, i ≤ l2 ∧ si = .int .i64 i ∧ Hid (Below w8.heap.size w8 wr)) (fun si _ => l2 - (intOf si).toNat)
      case atStart => exact ⟨0, by omega, rfl, HR9⟩
      case round =>
        obtain ⟨i, hi, rfl, HS⟩ := hrel
        clear HR9
        by_cases hil : i < l2
        · have hil' : (i : Int) < (l2 : Int) := by omega
          obtain ⟨b1, o1, rfl, h1⟩ := cameM_at HC8.out (by omega)
          obtain ⟨b2, o2, rfl, h2⟩ := cameM_at H8.out (by omega)
          obtain ⟨ax, lx, cx, x1, x2⟩ := h1 i hil
          obtain ⟨ay, ly, cy, y1, y2⟩ := h2 i hil
          have x3 := cell_later HS.out x1
          have y3 := cell_later HS.out y1
          have hlx : lx ≤ 1048576 := by have h3 := F4.out i (by rw [E2.out]; exact hil); rw [x2.1] at h3; omega
          have SM : Hid (∀ n, Calls Try.prog 35 #[.slice ax lx cx, .slice ay ly cy] (wr.drewN n) fun e w' => e = .returned (.bool true) ∧ ∃ nq, w' = (wr.drewN n).drewN nq) := by
            have hx := came_later x2 HS.out
            have hy := came_later y2 HS.out
            intro n
            exact same_eq _ _ _ _ _ _ (held.getD i []) (wr.drewN n) hx hy hlx
          clear h1 h2 x1 x2 y1 y2
          go_wp2_with fail
          go_big_quiet ((go_at_call 35; exact Calls.quiet_of (SM.out _)))
          go_wp2
          go_roundw
          case rel => exact ⟨i + 1, by omega, by go_num, below_drewN HS.out _⟩
          case measure => simp [intOf]; omega
        · have P := hid (later HB8.out HS.out)
          obtain rfl : i = l2 := by omega
          go_wp2
          go_ret
          exact ⟨rfl, P.out⟩

end Go.Proofs.Qxb6601533a
