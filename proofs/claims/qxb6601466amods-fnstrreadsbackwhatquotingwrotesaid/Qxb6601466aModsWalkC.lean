/-
  WALKS of seat b6601466aM: the bounds; the law FnStrReadsBackWhatQuotingWrote.
-/
import Derived.Test.Qxb6601466aModsWalkB
namespace Go.Proofs.Qxb6601466aMods.Kp
open Go.RowKit
set_option linter.unusedVariables false

theorem bytes23_yes (a b : Option Addr) (n ca m cb : Nat) (w : World) (h : n + m ≤ 1048576) :
    Calls Trym.prog 23 #[.slice a n ca, .slice b m cb] w fun e w' => e = .returned (.bool true) ∧ w = w' := by
  have h1 : ¬ (1048576 : Int) < (n : Int) := by omega
  have h2 : ¬ (1048576 : Int) < (m : Int) := by omega
  have h3 : ¬ (1048576 : Int) < (n : Int) + (m : Int) := by omega
  go_enter Trym.func23, Trym.ntmps23
  go_wp2
  go_ret
  exact ⟨rfl, rfl⟩

theorem bytes23_no (a b : Option Addr) (n ca m cb : Nat) (w : World) (h : ¬ n + m ≤ 1048576) (hn : n ≤ maxLen) (hm : m ≤ maxLen) :
    Calls Trym.prog 23 #[.slice a n ca, .slice b m cb] w fun e w' => e = .returned (.bool false) ∧ w = w' := by
  unfold maxLen at hn hm
  by_cases h1 : (1048576 : Int) < (n : Int)
  · go_enter Trym.func23, Trym.ntmps23
    go_wp2
    go_ret
    exact ⟨rfl, rfl⟩
  · by_cases h2 : (1048576 : Int) < (m : Int)
    · go_enter Trym.func23, Trym.ntmps23
      go_wp2
      go_ret
      exact ⟨rfl, rfl⟩
    · have h3 : (1048576 : Int) < (n : Int) + (m : Int) := by omega
      go_enter Trym.func23, Trym.ntmps23
      go_wp2
      go_ret
      exact ⟨rfl, rfl⟩

set_option maxHeartbeats 1000000 in
theorem law7 (a b : Option Addr) (n ca m cb : Nat) (t tail : List Int) (w : World) (hn : n ≤ maxLen) (hm : m ≤ maxLen)
    (ha : View w a n t) (hb : View w b m tail) (na : a = none → n = 0 ∧ ca = 0) (nb : b = none → m = 0 ∧ cb = 0) :
    Calls Trym.prog 7 #[.slice a n ca, .slice b m cb] w fun e w' => e = .returned (.bool true) ∧ Below w.heap.size w w' := by
  obtain ⟨i5, hi, hz0, hz1, hz2⟩ := info_parts info5
  have hla := ha.1
  have hlb := hb.1
  by_cases hs : n + m ≤ 1048576
  · by_cases hn19 : (524288 : Int) < (n : Int)
    · go_enter Trym.func7, Trym.ntmps7
      go_wp2_with (go_at_call 23; refine (bytes23_yes _ _ _ _ _ _ _ hs).mono ?_; rintro e w' ⟨rfl, rfl⟩)
      go_ret
      exact ⟨rfl, Below.refl _ _⟩
    · by_cases hm19 : (524288 : Int) < (m : Int)
      · go_enter Trym.func7, Trym.ntmps7
        go_wp2_with (go_at_call 23; refine (bytes23_yes _ _ _ _ _ _ _ hs).mono ?_; rintro e w' ⟨rfl, rfl⟩)
        go_ret
        exact ⟨rfl, Below.refl _ _⟩
      · have d1 : decide ((524288 : Int) < (n : Int)) = false := decide_eq_false hn19
        have d2 : decide ((524288 : Int) < (m : Int)) = false := decide_eq_false hm19
        go_enter Trym.func7, Trym.ntmps7
        go_wp2_with (go_at_call 23; refine (bytes23_yes _ _ _ _ _ _ _ hs).mono ?_; rintro e w' ⟨rfl, rfl⟩)
        refine (copy_any a n ca t _ (by omega) (by exact ha) na).mono ?_
        rintro e w1 ⟨v0, rfl, ho0, hb0⟩
        have hb' := hb.below hb0
        clear ha na
        go_wp2_with fail
        refine (copy_any b m cb tail _ (by omega) (by exact hb') nb).mono ?_
        rintro e w2 ⟨v1, rfl, ho1, hb1⟩
        have ho0' := ho0.kept hb1
        clear ho0 hb hb' nb
        obtain ⟨ao0, cap0, rfl, hV0, hc0, _⟩ := ho0'.shape
        obtain ⟨ao1, cap1, rfl, hV1, hc1, _⟩ := ho1.shape
        have hl0 : t.length ≤ 524288 := by have := (show t.length = n from by exact hla); omega
        have hl1 : tail.length ≤ 524288 := by have := (show tail.length = m from by exact hlb); omega
        have hel := esc_len t
        have hbw2 : Below w.heap.size w w2 := hb0.trans (hb1.mono hb0.size)
        have hst : Own (w2.alloc (.cells #[.int .u8 34] 5)) w2.heap.size (.slice (some ⟨w2.heap.size, 0, none⟩) 1 1) [34] :=
          ⟨World.ownsRow_lit (base := w2.heap.size) (e := 5) (size := 1) w2 #[.int .u8 34] 1 (Nat.le_refl _) (by decide) rfl, fun x hx => by simp at hx; omega⟩
        have HST := show Hid _ from hst
        clear ho0' ho1 hb0 hb1 hs hn hm hn19 hm19 hst hla hlb
        go_wp2_with fail
        go_loopw [5, 6] (fun v i wr => ∃ (k : Nat) (D : List Int), k ≤ t.length ∧ i = .int .i64 k ∧ Own wr w2.heap.size v D ∧ Hid (D ++ esc (t.drop k) = 34 :: esc t) ∧ Below w2.heap.size w2 wr) (fun _ i _ => t.length - (intOf i).toNat)
        case atStart => exact ⟨0, [34], Nat.zero_le _, rfl, HST.out, rfl, (Below.refl _ _).alloc (Nat.le_refl _) _⟩
        case round =>
          obtain ⟨k, D, hk, rfl, hown, hD, hbel⟩ := hrel
          have hDl := pre_len hD.out
          simp only [List.length_cons] at hDl
          have hsz := hbel.size
          by_cases hlt : k < t.length
          · obtain ⟨bb, oo, hao, hcc⟩ := hV0.cells (by omega)
            have hbb : bb < w2.heap.size := World.block_lt_of_cell? w2 _ (hcc k hlt)
            have g1 : wr.cell? ⟨bb, oo + k, none⟩ = some (.int .u8 (Bt t k)) := (hbel.cell (p := ⟨bb, oo + k, none⟩) hbb).trans (hcc k hlt)
            have hby := Byt.at hV0.2.1 k
            have hlt' : (k : Int) < (t.length : Int) := by omega
            subst hao
            clear hcc hV0 hV1 HST hbw2
            by_cases h34 : Bt t k = 34 ∨ Bt t k = 92
            · have hD' : Hid _ := esc_yes hlt h34 hD.out
              have hor : (Bt t k == 34) = true ∨ ((Bt t k == 34) = false ∧ (Bt t k == 92) = true) := by
                by_cases e : Bt t k = 34
                · exact .inl (by simpa using e)
                · exact .inr ⟨by simpa using e, by simpa using h34.resolve_left e⟩
              clear hD h34
              rcases hor with e1 | ⟨e1, e2⟩
              all_goals
                go_wp2_with (first | (at_builtin; refine wpList_push _ rfl (.tmp 48) (.tmp 49) 22 rfl w2.heap.size i5 Trym.underlying22 hi hz0 hz1 hz2 _ D rfl hown 92 (by omega) rfl (by omega) (by omega) ?_; intro v' w' ho' hb'; have g1' := ((hb' w2.heap.size (Nat.le_refl _)).cell (p := ⟨bb, oo + k, none⟩) hbb).trans g1) | (at_builtin; refine wpList_push _ rfl (.tmp 51) (.tmp 56) 22 rfl w2.heap.size i5 Trym.underlying22 hi hz0 hz1 hz2 _ (D ++ [92]) rfl ho' (Bt t k) hby rfl (by simp; omega) (by have := (hb' w2.heap.size (Nat.le_refl _)).size; omega) ?_; intro v'' w'' ho'' hb''))
                go_roundw
                case rel => exact ⟨k + 1, _, by omega, by go_num, ho'', hD', (hbel.trans (hb' _ (Nat.le_refl _))).trans (hb'' _ (Nat.le_refl _))⟩
                case measure => simp [intOf]; omega
            · have h1 : Bt t k ≠ 34 := fun e => h34 (.inl e)
              have h2 : Bt t k ≠ 92 := fun e => h34 (.inr e)
              have hD' : Hid _ := esc_no hlt h1 h2 hD.out
              have e1 : (Bt t k == 34) = false := by simpa using h1
              have e2 : (Bt t k == 92) = false := by simpa using h2
              clear hD h34 h1 h2
              go_wp2_with (at_builtin; refine wpList_push _ rfl (.tmp 51) (.tmp 56) 22 rfl w2.heap.size i5 Trym.underlying22 hi hz0 hz1 hz2 _ D rfl hown (Bt t k) hby rfl (by omega) (by omega) ?_; intro v'' w'' ho'' hb'')
              go_roundw
              case rel => exact ⟨k + 1, _, by omega, by go_num, ho'', hD', hbel.trans (hb'' _ (Nat.le_refl _))⟩
              case measure => simp [intOf]; omega
          · obtain rfl := end_esc (by omega) hD.out
            obtain ⟨g, cap, hu, hVd, hcd, _, hg1, hg2⟩ := hown.shape' (by simp)
            subst hu
            clear hD HST hk
            go_wp2_with (at_builtin; refine wpList_push _ rfl (.tmp 61) (.tmp 62) 22 rfl w2.heap.size i5 Trym.underlying22 hi hz0 hz1 hz2 _ _ rfl hown 34 (by omega) rfl (by simp; omega) (by omega) ?_; intro v' w' ho' hb')
            have hbw : Below w2.heap.size w2 w' := hbel.trans (hb' _ (Nat.le_refl _))
            clear hVd hcd hown hbel hb' hsz hDl hg1 hg2 hlt
            generalize hE : esc t = E at *
            have HE := show Hid _ from hE
            clear hE
            go_loopw [5, 8] (fun v i wr => ∃ (k : Nat) (D : List Int), k ≤ tail.length ∧ i = .int .i64 k ∧ Own wr w2.heap.size v D ∧ Hid (D ++ tail.drop k = 34 :: E ++ [34] ++ tail) ∧ Below w2.heap.size w2 wr) (fun _ i _ => tail.length - (intOf i).toNat)
            case atStart => exact ⟨0, _, Nat.zero_le _, rfl, ho', rfl, hbw⟩
            case round =>
              clear hbw ho'
              obtain ⟨k2, D, hk2, rfl, hown, hD, hbel⟩ := hrel
              have hDl := pre_len hD.out
              simp only [List.length_append, List.length_cons, List.length_nil] at hDl
              have hsz := hbel.size
              by_cases hlt : k2 < tail.length
              · obtain ⟨bb, oo, hao, hcc⟩ := hV1.cells (by omega)
                have hbb : bb < w2.heap.size := World.block_lt_of_cell? w2 _ (hcc k2 hlt)
                have g1 : wr.cell? ⟨bb, oo + k2, none⟩ = some (.int .u8 (Bt tail k2)) := (hbel.cell (p := ⟨bb, oo + k2, none⟩) hbb).trans (hcc k2 hlt)
                have hby := Byt.at hV1.2.1 k2
                have hlt' : (k2 : Int) < (tail.length : Int) := by omega
                have hD' : Hid _ := tail_step hlt hD.out
                subst hao
                clear hcc hV0 hV1 hbw2 hD
                go_wp2_with (at_builtin; refine wpList_push _ rfl (.tmp 70) (.tmp 75) 22 rfl w2.heap.size i5 Trym.underlying22 hi hz0 hz1 hz2 _ D rfl hown (Bt tail k2) hby rfl (by omega) (by omega) ?_; intro v'' w'' ho'' hb'')
                go_roundw
                case rel => exact ⟨k2 + 1, _, by omega, by go_num, ho'', hD', hbel.trans (hb'' _ (Nat.le_refl _))⟩
                case measure => simp [intOf]; omega
              · have hDe := end_tail (by omega) hD.out
                have hDn : D.length = E.length + tail.length + 2 := by rw [hDe]; simp; omega
                obtain ⟨g2, cap2, hu, hVd, hcd, _, hg1, hg2⟩ := hown.shape' (by omega)
                subst hu
                have hel' := esc_len t
                rw [HE.out] at hel'
                have hsc := sc_quoted t tail
                have hpart := quoted_part t tail
                rw [HE.out, ← hDe] at hsc hpart
                have HP := show Hid _ from hpart
                have HN := show Hid _ from hDn
                have hDb : E.length + 2 ≤ D.length ∧ D.length ≤ 2000000 := by omega
                clear hD hk2 hDl hDn hpart hDe hel
                go_wp2_with fail
                refine (zzstr_any g2 0 _ cap2 0 (E.length + 1) 0 rfl D _ (by omega) hcd (by exact hVd) hsc).mono ?_
                rintro e w3 ⟨rfl, hb3⟩
                have hVt := hVd.part 1 (E.length + 1) (by omega) (by omega)
                rw [show E.length + 1 - 1 = E.length by omega, HP.out] at hVt
                have hVt' := hVt.below hb3
                have hcap2 : ¬ cap2 = 1 := by omega
                have hVt2 : View w3 (some ⟨g2, 1, none⟩) E.length E := by simpa using hVt'
                have hVt0 : View w3 ao0 t.length t := (hV0.below (hbel.mono (Nat.le_refl _))).below hb3
                have hbw3 : Below w.heap.size w w3 := (hbw2.trans (hbel.mono hbw2.size)).trans (hb3.mono (Nat.le_trans hbw2.size hsz))
                clear hVd hVt hVt' hV0 hV1 hown hbel hb3 hsc hg1 hg2 hsz hbw2 HP HN
                go_wp2_with fail
                refine (same_true _ _ E.length (cap2 - 1) (cap2 - 1) E w3 (by omega) (by exact hVt2) (by exact hVt2)).mono ?_
                rintro e w4 ⟨rfl, q, rfl⟩
                have hune : Hid (unesc E = t) := by rw [← HE.out]; exact unesc_esc t
                go_wp2_with fail
                go_loopw [11, 12] (fun v i wr => ∃ (k : Nat) (D : List Int), k ≤ E.length ∧ i = .int .i64 k ∧ Own wr w3.heap.size v D ∧ Hid (D ++ unesc (E.drop k) = t) ∧ Below w3.heap.size w3 wr) (fun _ i _ => E.length - (intOf i).toNat)
                case atStart => exact ⟨0, [], Nat.zero_le _, rfl, Own.nil _ _, hune, below_drewN (Below.refl _ _) _⟩
                case round =>
                  obtain ⟨k3, D3, hk3, rfl, hown, hD, hbel⟩ := hrel
                  have hDl := pre_len hD.out
                  have hsz := hbel.size
                  by_cases hlt : k3 < E.length
                  · obtain ⟨bb, oo, hao, hcc⟩ := hVt2.cells (by omega)
                    simp only [Option.some.injEq, Addr.mk.injEq, and_true] at hao
                    obtain ⟨rfl, rfl⟩ := hao
                    have hbb : g2 < w3.heap.size := World.block_lt_of_cell? w3 _ (hcc k3 hlt)
                    have g1 : wr.cell? ⟨g2, 1 + k3, none⟩ = some (.int .u8 (Bt E k3)) := (hbel.cell (p := ⟨g2, 1 + k3, none⟩) hbb).trans (hcc k3 hlt)
                    have hlt' : (k3 : Int) < (E.length : Int) := by omega
                    by_cases h92 : Bt E k3 = 92
                    · by_cases h2 : k3 + 1 < E.length
                      · have hby := Byt.at hVt2.2.1 (k3 + 1)
                        have g2' : wr.cell? ⟨g2, 1 + (k3 + 1), none⟩ = some (.int .u8 (Bt E (k3 + 1))) := (hbel.cell (p := ⟨g2, 1 + (k3 + 1), none⟩) hbb).trans (hcc (k3 + 1) h2)
                        have hD' : Hid _ := une_b2 h2 h92 hD.out
                        have e1 : (Bt E k3 == 92) = true := by simpa using h92
                        have h2' : (k3 : Int) + 1 < (E.length : Int) := by omega
                        clear hcc hD h92 hVt2 hVt0 hune
                        go_wp2_with (at_builtin; refine wpList_push _ rfl (.tmp 119) (.tmp 124) 22 rfl w3.heap.size i5 Trym.underlying22 hi hz0 hz1 hz2 _ D3 rfl hown (Bt E (k3 + 1)) hby rfl (by omega) (by omega) ?_; intro v'' w'' ho'' hb'')
                        go_roundw
                        case rel => exact ⟨k3 + 1 + 1, _, by omega, by go_num, ho'', hD', hbel.trans (hb'' _ (Nat.le_refl _))⟩
                        case measure => simp [intOf]; omega
                      · have hby := Byt.at hVt2.2.1 k3
                        have hD' : Hid _ := une_b1 (by omega) h92 hD.out
                        have e1 : (Bt E k3 == 92) = true := by simpa using h92
                        have h2' : ¬ (k3 : Int) + 1 < (E.length : Int) := by omega
                        have h2d : decide ((k3 : Int) + 1 < (E.length : Int)) = false := decide_eq_false h2'
                        clear hcc hD h92 hVt2 hVt0 hune
                        go_wp2_with (at_builtin; refine wpList_push _ rfl (.tmp 119) (.tmp 124) 22 rfl w3.heap.size i5 Trym.underlying22 hi hz0 hz1 hz2 _ D3 rfl hown (Bt E k3) hby rfl (by omega) (by omega) ?_; intro v'' w'' ho'' hb'')
                        go_roundw
                        case rel => exact ⟨k3 + 1, _, by omega, by go_num, ho'', hD', hbel.trans (hb'' _ (Nat.le_refl _))⟩
                        case measure => simp [intOf]; omega
                    · have hby := Byt.at hVt2.2.1 k3
                      have hD' : Hid _ := une_o hlt h92 hD.out
                      have e1 : (Bt E k3 == 92) = false := by simpa using h92
                      clear hcc hD h92 hVt2 hVt0 hune
                      go_wp2_with (at_builtin; refine wpList_push _ rfl (.tmp 119) (.tmp 124) 22 rfl w3.heap.size i5 Trym.underlying22 hi hz0 hz1 hz2 _ D3 rfl hown (Bt E k3) hby rfl (by omega) (by omega) ?_; intro v'' w'' ho'' hb'')
                      go_roundw
                      case rel => exact ⟨k3 + 1, _, by omega, by go_num, ho'', hD', hbel.trans (hb'' _ (Nat.le_refl _))⟩
                      case measure => simp [intOf]; omega
                  · obtain rfl := end_une (by omega) hD.out
                    obtain ⟨aob, capb, hu, hVb, _, _⟩ := hown.shape
                    subst hu
                    have hV0' := hVt0.below (hbel.mono (Nat.le_refl _))
                    have hbwr : Below w.heap.size w wr := hbw3.trans (hbel.mono hbw3.size)
                    clear hD hVt2 hVt0 hown hbel hbw3 hune
                    go_wp2_with fail
                    refine (same_true _ _ _ capb cap0 D3 wr (by omega) (by exact hVb) (by exact hV0')).mono ?_
                    rintro e w5 ⟨rfl, q5, rfl⟩
                    go_wp2
                    go_ret
                    exact ⟨rfl, below_drewN hbwr _⟩
  · go_enter Trym.func7, Trym.ntmps7
    go_wp2_with (go_at_call 23; refine (bytes23_no _ _ _ _ _ _ _ hs hn hm).mono ?_; rintro e w' ⟨rfl, rfl⟩)
    go_ret
    exact ⟨rfl, Below.refl _ _⟩

end Go.Proofs.Qxb6601466aMods.Kp
