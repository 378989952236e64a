/-
  WALKS of seat b6601466aM: zzValueEnd.
-/
import Derived.Test.Qxb6601466aModsWalkH
import Derived.WalkSmall
namespace Go.Proofs.Qxb6601466aMods.Kp
open Go.RowKit
set_option linter.unusedVariables false

/-- The length in a slot. -/
def lenOf : Value → Nat
  | .slice _ n _ => n
  | _ => 0

/-- The row without its last element. -/
theorem Own.pop {w : World} {base g cap m : Nat} {S : List Int} (h : Own w base (.slice (some ⟨g, 0, none⟩) (m + 1) cap) S) (hm : S.length = m + 1) : Own w base (.slice (some ⟨g, 0, none⟩) m cap) (S.take m) := by
  obtain ⟨⟨h1, h2⟩, hb⟩ := h
  have hl : (S.take m).length = m := by simp; omega
  refine ⟨⟨by simp [ints_len], ?_⟩, fun x hx => hb x (List.take_subset _ _ hx)⟩
  rcases h2 with ⟨e, _⟩ | ⟨g', cap', cur, e, hg, hh, hc, hx, hs, ht⟩
  · cases e
  · simp only [Value.slice.injEq, Option.some.injEq, Addr.mk.injEq, and_true] at e
    obtain ⟨rfl, _, rfl⟩ := e
    refine .inr ⟨g, cap, cur, by rw [hl], hg, hh, by omega, hx, hs, ?_⟩
    have e2 : ints (S.take m) = (ints S).take m := by simp [ints, List.map_take]
    rw [e2, ← ht, hl, hm, List.take_take]
    congr 1
    omega

def opB (c : Int) : Bool := c == 91 || c == 123
theorem opB_no {c : Int} (h : opB c = false) : c ≠ 91 ∧ c ≠ 123 := by simpa [opB] using h
theorem opB_yes {c : Int} (h : opB c = true) : c = 91 ∨ c = 123 := by simpa [opB] using h

/-- What is known behind one step of the grammar's machine: it has failed; or a container is open; or a value has ended. -/
def Mid (w : World) (n B st : Nat) (l : List Int) (p : Nat) (x v o : Value) (wc : World) : Prop :=
  ∃ S : List Int, Own wc B v S ∧ Below B w wc ∧ S.length ≤ st + 1 ∧
    ((x = .int .i64 (-1) ∧ ∃ ob, o = .bool ob) ∨
     (∃ k : Nat, x = .int .i64 k ∧ o = .bool true ∧ k ≤ n ∧ 0 < S.length ∧ Bef l p k S.length) ∨
     (∃ k : Nat, x = .int .i64 k ∧ o = .bool false ∧ k ≤ n ∧ S.length ≤ st ∧ Fin l p k S.length))

set_option maxHeartbeats 400000 in
theorem valend11_out (a : Option Addr) (n cap p : Nat) (pz : Int) (hpz : pz = p) (w : World) (hn : n ≤ 1099511627776) (hp : n ≤ p) :
    Calls Trym.prog 11 #[.slice a n cap, .int .i64 pz] w fun e w' => Below w.heap.size w w' ∧ e = .returned (.int .i64 (-1)) := by
  subst hpz
  have hp' : (n : Int) ≤ (p : Int) := by omega
  have hp0 : ¬ (p : Int) < 0 := by omega
  go_enter Trym.func11, Trym.ntmps11
  go_wp2
  refine wp_loop_rounds 1 ?_
  rw [rounds_succ]
  go_wp2
  go_ret
  exact ⟨Below.refl _ _, rfl⟩

set_option maxRecDepth 100000 in
set_option maxHeartbeats 8000000 in
/-- zzValueEnd: -1, or where the value ends. -/
theorem valend11 (b off n cap p : Nat) (pz : Int) (hpz : pz = p) (l : List Int) (w : World) (hn : n ≤ 1099511627776) (hp : p < n) (hv : View w (some ⟨b, off, none⟩) n l) :
    Calls Trym.prog 11 #[.slice (some ⟨b, off, none⟩) n cap, .int .i64 pz] w fun e w' => Below w.heap.size w w' ∧ (e = .returned (.int .i64 (-1)) ∨ ∃ r : Nat, e = .returned (.int .i64 r) ∧ Ended l p r) := by
  subst hpz
  have hl := hv.1
  obtain ⟨i5, hi, hz0, hz1, hz2⟩ := info_parts info5
  have HV : Hid (∀ wr, Below w.heap.size w wr → View wr (some ⟨b, off, none⟩) n l) := fun wr h => hv.below h
  have HC : Hid (∀ wr, Below w.heap.size w wr → ∀ i, i < n → wr.cell? ⟨b, off + i, none⟩ = some (.int .u8 (Bt l i))) := fun wr h i hi => by
    obtain ⟨b', off', e, hc⟩ := (hv.below h).cells (by omega)
    simp only [Option.some.injEq, Addr.mk.injEq, and_true] at e
    obtain ⟨rfl, rfl⟩ := e
    exact hc i hi
  clear hv
  have hp0 : ¬ (p : Int) < 0 := by omega
  go_enter Trym.func11, Trym.ntmps11
  go_wp2_with fail
  go_loopw [1, 5, 6] (fun x v t wr => ∃ (k st : Nat) (S : List Int), x = .int .i64 k ∧ t = .int .i64 st ∧ st ≤ n + 1 ∧ k ≤ n ∧ S.length ≤ st ∧ Own wr w.heap.size v S ∧ Below w.heap.size w wr ∧ Hid (Bef l p k S.length) ∧ Hid (S.length = 0 → k = p)) (fun _ _ t _ => n + 1 - (intOf t).toNat)
  case atStart => exact ⟨p, 0, [], rfl, rfl, by omega, by omega, Nat.le_refl _, Own.nil _ _, Below.refl _ _, bef_self l p, fun _ => rfl⟩
  case round =>
    obtain ⟨k, st, S, rfl, rfl, hst, hk, hS, hown, hbel, hbef, hS0⟩ := hrel
    by_cases hst' : st ≤ n
    case neg =>
      have hst2 : ¬ (st : Int) ≤ (n : Int) := by omega
      go_wp2_with fail
      go_ret
      exact ⟨hbel, .inl rfl⟩
    have hst2 : (st : Int) ≤ (n : Int) := by omega
    by_cases hkn : k < n
    case neg =>
      have hk2 : (n : Int) ≤ (k : Int) := by omega
      go_wp2_with fail
      go_ret
      exact ⟨hbel, .inl rfl⟩
    have hk2 : ¬ (n : Int) ≤ (k : Int) := by omega
    have hk3 : (k : Int) < (n : Int) := by omega
    have g1 := HC.out wr hbel k hkn
    have hsz := hbel.size
    have hby : 0 ≤ Bt l k ∧ Bt l k ≤ 255 := Byt.at (HV.out wr hbel).2.1 k
    go_upto_region 11 with fail
    go_cut [33] (fun x wc => x = .bool (opB (Bt l k)) ∧ wr = wc)
    case first =>
      by_cases h1 : Bt l k = 91
      · have e1 : (Bt l k == 91) = true := by simpa using h1
        have ho : Hid (opB (Bt l k) = true) := by simp [Hid, opB, h1]
        clear h1
        go_wp2_with fail
        go_meet
        exact ⟨by rw [ho.out], rfl⟩
      · have e1 := ne_beq h1
        by_cases h2 : Bt l k = 123
        · have e2 : (Bt l k == 123) = true := by simpa using h2
          have ho : Hid (opB (Bt l k) = true) := by simp [Hid, opB, h2]
          clear h1 h2
          go_wp2_with fail
          go_meet
          exact ⟨by rw [ho.out], rfl⟩
        · have e2 := ne_beq h2
          have ho : Hid (opB (Bt l k) = false) := by simp [Hid, opB, h1, h2]
          clear h1 h2
          go_wp2_with fail
          go_meet
          exact ⟨by rw [ho.out], rfl⟩
    case rest =>
    obtain ⟨rfl, rfl⟩ := hcut
    go_upto_if 33 with fail
    go_cut [1, 5, 7, 8] (fun x v _ o wc => Mid w n w.heap.size st l p x v o wc)
    case first =>
      cases ho : opB (Bt l k) with
      | false =>
        have hno := opB_no ho
        by_cases h34 : Bt l k = 34
        · have e1 : (Bt l k == 34) = true := by simpa using h34
          have H34 : Hid (Bt l k = 34) := h34
          clear h34
          go_wp2_with fail
          refine (strend26 b off n cap k _ rfl l _ hn hk (by exact HV.out wr hbel)).mono ?_
          rintro e w1 ⟨rfl, rfl | ⟨j, rfl, hkn', _, hsc⟩⟩
          · go_wp2_with fail
            go_meet
            exact ⟨S, hown, hbel, by omega, .inl ⟨rfl, _, rfl⟩⟩
          · have hjl := hsc.lt
            have hF : Hid (Fin l p (j + 1) S.length) := Fin.of_aft (aft_str hbef.out (by omega) H34.out hsc)
            clear hsc
            go_wp2_with fail
            go_meet
            exact ⟨S, hown, hbel, by omega, .inr (.inr ⟨j + 1, by go_num, rfl, by omega, hS, hF.out⟩)⟩
        · have e1 := ne_beq h34
          clear h34
          go_wp2_with fail
          refine (litend27 b off n cap k _ rfl l _ hn hkn (by exact HV.out wr hbel)).mono ?_
          rintro e w1 ⟨⟨q, rfl⟩, rfl | ⟨r, rfl, hlit⟩⟩
          · go_wp2_with fail
            go_meet
            exact ⟨S, hown.drewN q, below_drewN hbel q, by omega, .inl ⟨rfl, _, rfl⟩⟩
          · have hF : Hid (Fin l p r S.length) := fin_lit hbef.out hS0.out hlit
            have hrn := hlit.2.1
            clear hlit
            go_wp2_with fail
            go_meet
            exact ⟨S, hown.drewN q, below_drewN hbel q, by omega, .inr (.inr ⟨r, rfl, rfl, by omega, hS, hF.out⟩)⟩
      | true =>
        have hop := opB_yes ho
        go_wp2_with fail
        refine (ws10 _ n cap (k + 1) _ (by omega) l _ hn (by omega) (by exact HV.out wr hbel)).mono ?_
        rintro e w1 ⟨rfl, j, rfl, hws⟩
        have hjn := hws.2.1
        have hB2 : Hid (Bef l p j (S.length + 1)) := bef_open hbef.out (by omega) (by omega) hws
        clear hws
        rcases hop with hop | hop
        · rw [hop] at g1
          rw [hop]
          by_cases hjn' : j < n
          · have g2 := HC.out wr hbel j hjn'
            have hj2 : (j : Int) < (n : Int) := by omega
            by_cases hcl : Bt l j = 93
            · have hA : Hid (Fin l p (j + 1) S.length) := Fin.of_aft (aft_close hB2.out (WS.here (by omega) (wsB_no (by omega))) (by omega) (by omega))
              rw [hcl] at g2
              clear hcl hB2
              go_wp2_with fail
              go_meet
              exact ⟨S, hown, hbel, by omega, .inr (.inr ⟨j + 1, by go_num, rfl, by omega, hS, hA.out⟩)⟩
            · have e2 := ne_beq hcl
              clear hcl
              go_wp2_with (at_builtin; refine wpList_push _ rfl (.tmp 66) (.tmp 68) 22 rfl w.heap.size i5 Trym.underlying22 hi hz0 hz1 hz2 _ S rfl hown 91 (by omega) rfl (by omega) (by omega) ?_; intro v' w' ho' hb')
              go_meet
              exact ⟨_, ho', hbel.trans (hb' _ (Nat.le_refl _)), by simp; omega, .inr (.inl ⟨j, rfl, rfl, by omega, by simp, by rw [List.length_append]; exact hB2.out⟩)⟩
          · have hj2 : decide ((j : Int) < (n : Int)) = false := decide_eq_false (by omega)
            go_wp2_with (at_builtin; refine wpList_push _ rfl (.tmp 66) (.tmp 68) 22 rfl w.heap.size i5 Trym.underlying22 hi hz0 hz1 hz2 _ S rfl hown 91 (by omega) rfl (by omega) (by omega) ?_; intro v' w' ho' hb')
            go_meet
            exact ⟨_, ho', hbel.trans (hb' _ (Nat.le_refl _)), by simp; omega, .inr (.inl ⟨j, rfl, rfl, by omega, by simp, by rw [List.length_append]; exact hB2.out⟩)⟩
        · rw [hop] at g1
          rw [hop]
          by_cases hjn' : j < n
          · have g2 := HC.out wr hbel j hjn'
            have hj2 : (j : Int) < (n : Int) := by omega
            by_cases hcl : Bt l j = 125
            · have hA : Hid (Fin l p (j + 1) S.length) := Fin.of_aft (aft_close hB2.out (WS.here (by omega) (wsB_no (by omega))) (by omega) (by omega))
              rw [hcl] at g2
              clear hcl hB2
              go_wp2_with fail
              go_meet
              exact ⟨S, hown, hbel, by omega, .inr (.inr ⟨j + 1, by go_num, rfl, by omega, hS, hA.out⟩)⟩
            · have e2 := ne_beq hcl
              clear hcl
              go_wp2_with (at_builtin; refine wpList_push _ rfl (.tmp 66) (.tmp 68) 22 rfl w.heap.size i5 Trym.underlying22 hi hz0 hz1 hz2 _ S rfl hown 123 (by omega) rfl (by omega) (by omega) ?_; intro v' w' ho' hb')
              have hbel' := hbel.trans (hb' _ (Nat.le_refl _))
              refine (member25 b off n cap j _ rfl l _ hn (by omega) (by exact HV.out w' hbel')).mono ?_
              rintro e w1 ⟨rfl, rfl | ⟨r, rfl, hmem⟩⟩
              · go_wp2_with fail
                go_meet
                exact ⟨_, ho', hbel', by simp; omega, .inl ⟨rfl, _, rfl⟩⟩
              · have hrn := hmem.lt.2.1
                have hB3 : Hid (Bef l p r (S.length + 1)) := bef_member hB2.out (by omega) hmem
                clear hmem
                go_wp2_with fail
                go_meet
                exact ⟨_, ho', hbel', by simp; omega, .inr (.inl ⟨r, rfl, rfl, by omega, by simp, by rw [List.length_append]; exact hB3.out⟩)⟩
          · have hj2 : decide ((j : Int) < (n : Int)) = false := decide_eq_false (by omega)
            go_wp2_with (at_builtin; refine wpList_push _ rfl (.tmp 66) (.tmp 68) 22 rfl w.heap.size i5 Trym.underlying22 hi hz0 hz1 hz2 _ S rfl hown 123 (by omega) rfl (by omega) (by omega) ?_; intro v' w' ho' hb')
            have hbel' := hbel.trans (hb' _ (Nat.le_refl _))
            refine (member25 b off n cap j _ rfl l _ hn (by omega) (by exact HV.out w' hbel')).mono ?_
            rintro e w1 ⟨rfl, rfl | ⟨r, rfl, hmem⟩⟩
            · go_wp2_with fail
              go_meet
              exact ⟨_, ho', hbel', by simp; omega, .inl ⟨rfl, _, rfl⟩⟩
            · have hrn := hmem.lt.2.1
              have hB3 : Hid (Bef l p r (S.length + 1)) := bef_member hB2.out (by omega) hmem
              clear hmem
              go_wp2_with fail
              go_meet
              exact ⟨_, ho', hbel', by simp; omega, .inr (.inl ⟨r, rfl, rfl, by omega, by simp, by rw [List.length_append]; exact hB3.out⟩)⟩
    case rest =>
    clear hown hbel hbef hS0 hS g1 hsz hby
    obtain ⟨S', hown', hbel', hS', hmid⟩ := hcut
    rcases hmid with ⟨rfl, ob, rfl⟩ | ⟨k', rfl, rfl, hk', hpos, hB⟩ | ⟨k', rfl, rfl, hk', hS2, hF⟩
    · go_wp2_with fail
      go_ret
      exact ⟨hbel', .inl rfl⟩
    · have HB : Hid (Bef l p k' S'.length) := hB
      have hneg : ¬ (k' : Int) < 0 := by omega
      clear hB
      go_wp2_with fail
      go_roundw
      case rel => exact ⟨k', st + 1, S', rfl, by go_num, by omega, hk', by omega, hown', hbel', HB, fun h => by omega⟩
      case measure => simp [intOf]; omega
    · have HF : Hid (Fin l p k' S'.length) := hF
      have hneg : ¬ (k' : Int) < 0 := by omega
      clear hF
      go_wp2_with fail
      go_loopw [1, 5] (fun x v wr => ∃ (k : Nat) (S : List Int), x = .int .i64 k ∧ k ≤ n ∧ S.length ≤ st ∧ Own wr w.heap.size v S ∧ Below w.heap.size w wr ∧ Hid (Fin l p k S.length)) (fun _ v _ => lenOf v)
      case atStart => exact ⟨k', S', rfl, hk', hS2, hown', hbel', HF⟩
      case round =>
        clear hown' hbel' HF hS' hS2
        obtain ⟨k2, S2, rfl, hk2', hS2', hown2, hbel2, hF2⟩ := hrel
        by_cases hS20 : S2.length = 0
        · obtain ⟨ao, cp, hu, _, _, _⟩ := hown2.shape
          rw [hS20] at hu
          have HF3 := hF2.out
          rw [hS20] at HF3
          have hE : Hid (Ended l p k2) := Fin.ended HF3 (by omega) (by omega)
          subst hu
          clear HF3 hF2 hown2
          go_wp2_with fail
          go_ret
          exact ⟨hbel2, .inr ⟨k2, rfl, hE.out⟩⟩
        · obtain ⟨m, hm⟩ : ∃ m, S2.length = m + 1 := ⟨S2.length - 1, by omega⟩
          obtain ⟨g2, cp, hu, _, hcp, _, _, _⟩ := hown2.shape' (by omega)
          rw [hm] at hu
          subst hu
          have gt : wr.cell? ⟨g2, m, none⟩ = some (.int .u8 (Bt S2 m)) := hown2.cell hm m (by omega)
          have hpop := hown2.pop hm
          have hlm : (S2.take m).length = m := by simp; omega
          have HF2 := hF2.out
          rw [hm] at HF2 hS2' hcp
          replace HF2 : Hid (Fin l p k2 (m + 1)) := HF2
          have HO : Hid (Own wr w.heap.size (.slice (some ⟨g2, 0, none⟩) (m + 1) cp) S2) := hown2
          have HM2 : Hid (S2.length = m + 1) := hm
          clear hF2 hown2 hS20 hm
          go_wp2_with fail
          refine (ws10 _ n cap k2 _ rfl l _ hn hk2' (by exact HV.out wr hbel2)).mono ?_
          rintro e w1 ⟨rfl, j, rfl, hws⟩
          have hjn := hws.2.1
          have HW : Hid (WS l k2 j) := hws
          clear hws
          by_cases hjn' : j < n
          case neg =>
            have hj2 : (n : Int) ≤ (j : Int) := by omega
            go_wp2_with fail
            go_ret
            exact ⟨hbel2, .inl rfl⟩
          have hj2 : ¬ (n : Int) ≤ (j : Int) := by omega
          have hj3 : (j : Int) < (n : Int) := by omega
          have g3 := HC.out wr hbel2 j hjn'
          by_cases h44 : Bt l j = 44
          · rw [h44] at g3
            have HB : Hid (Bef l p k2 (m + 1)) := HF2.out.bef (by omega) HW.out (by omega) (.inl h44)
            have H44 : Hid (Bt l j = 44) := h44
            clear h44 HF2 hpop
            go_wp2_with fail
            refine (ws10 _ n cap (j + 1) _ (by omega) l _ hn (by omega) (by exact HV.out wr hbel2)).mono ?_
            rintro e w1 ⟨rfl, r, rfl, hws2⟩
            have hrn := hws2.2.1
            have HB2 : Hid (Bef l p r (m + 1)) := bef_comma HB.out HW.out (by omega) H44.out hws2
            have hr0 : ¬ (r : Int) < 0 := by omega
            clear hws2 HB
            by_cases ht : Bt S2 m = 123
            · have et : (Bt S2 m == 123) = true := by simpa using ht
              clear ht
              go_wp2_with fail
              refine (member25 b off n cap r _ rfl l _ hn (by omega) (by exact HV.out wr hbel2)).mono ?_
              rintro e w1 ⟨rfl, rfl | ⟨r2, rfl, hmem⟩⟩
              · go_wp2_with fail
                go_ret
                exact ⟨hbel2, .inl rfl⟩
              · have hrn2 := hmem.lt.2.1
                have hr20 : ¬ (r2 : Int) < 0 := by omega
                have HB3 : Hid (Bef l p r2 (m + 1)) := bef_member HB2.out (by omega) hmem
                clear hmem
                go_wp2_with fail
                go_roundw
                case rel => exact ⟨r2, st + 1, S2, rfl, by go_num, by omega, by omega, by rw [HM2.out]; omega, HO.out, hbel2, by rw [HM2.out]; exact HB3, fun h => by have := HM2.out; omega⟩
                case measure => simp [intOf]; omega
            · have et := ne_beq ht
              clear ht
              go_wp2_with fail
              go_roundw
              case rel => exact ⟨r, st + 1, S2, rfl, by go_num, by omega, by omega, by rw [HM2.out]; omega, HO.out, hbel2, by rw [HM2.out]; exact HB2, fun h => by have := HM2.out; omega⟩
              case measure => simp [intOf]; omega
          · have e44 := ne_beq h44
            clear h44
            by_cases t91 : Bt S2 m = 91
            · have et : (Bt S2 m == 91) = true := by simpa using t91
              have et2 : (Bt S2 m == 123) = false := ne_beq (by omega)
              clear t91
              by_cases c93 : Bt l j = 93
              · have ec : (Bt l j == 93) = true := by simpa using c93
                have HF3 : Hid (Fin l p (j + 1) m) := Fin.of_aft (aft_close (HF2.out.bef (by omega) HW.out (by omega) (.inr (.inr c93))) HW.out (by omega) (.inr c93))
                clear c93 HF2
                go_wp2_with fail
                go_roundw
                case rel => exact ⟨j + 1, S2.take m, by go_num, by omega, by rw [hlm]; omega, hpop, hbel2, by rw [hlm]; exact HF3⟩
                case measure => simp [lenOf]
              · have ec := ne_beq c93
                clear c93
                go_wp2_with fail
                go_ret
                exact ⟨hbel2, .inl rfl⟩
            · have et := ne_beq t91
              clear t91
              by_cases t123 : Bt S2 m = 123
              · have et2 : (Bt S2 m == 123) = true := by simpa using t123
                clear t123
                by_cases c125 : Bt l j = 125
                · have ec : (Bt l j == 125) = true := by simpa using c125
                  have HF3 : Hid (Fin l p (j + 1) m) := Fin.of_aft (aft_close (HF2.out.bef (by omega) HW.out (by omega) (.inr (.inl c125))) HW.out (by omega) (.inl c125))
                  clear c125 HF2
                  go_wp2_with fail
                  go_roundw
                  case rel => exact ⟨j + 1, S2.take m, by go_num, by omega, by rw [hlm]; omega, hpop, hbel2, by rw [hlm]; exact HF3⟩
                  case measure => simp [lenOf]
                · have ec := ne_beq c125
                  clear c125
                  go_wp2_with fail
                  go_ret
                  exact ⟨hbel2, .inl rfl⟩
              · have et2 := ne_beq t123
                clear t123
                go_wp2_with fail
                go_ret
                exact ⟨hbel2, .inl rfl⟩

end Go.Proofs.Qxb6601466aMods.Kp
