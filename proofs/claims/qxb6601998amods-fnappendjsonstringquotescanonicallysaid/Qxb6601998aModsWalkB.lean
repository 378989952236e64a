/-
  WALKS of seat b6601998aM: appendJSONString.
-/
import Derived.Test.Qxb6601998aModsWalkA
import Derived.Deep.RegionLaw
namespace Go.Proofs.Qxb6601998aMods.Kp
open Go.RowKit
set_option linter.unusedVariables false

theorem ne_beq {c k : Int} (h : c ≠ k) : (c == k) = false := by simpa using h

theorem and15_fin : ∀ m : Fin 256, bits BinOp.and IntKind.u8 (m.val : Int) 15 = (m.val : Int) % 16 := by decide +kernel
theorem and15 {d : Int} (h : 0 ≤ d ∧ d ≤ 255) : bits BinOp.and IntKind.u8 d 15 = d % 16 := by
  have := and15_fin ⟨d.toNat, by omega⟩
  rwa [show ((d.toNat : Nat) : Int) = d from by omega] at this
theorem hex_at (v : Int) (h0 : 0 ≤ v) (h1 : v < 16) (hp : v.toNat < (ByteArray.mk #[48, 49, 50, 51, 52, 53, 54, 55, 56, 57, 97, 98, 99, 100, 101, 102]).size) :
    ((((ByteArray.mk #[48, 49, 50, 51, 52, 53, 54, 55, 56, 57, 97, 98, 99, 100, 101, 102])[v.toNat]'hp).toNat : Nat) : Int) = hx v := by
  have h : v = 0 ∨ v = 1 ∨ v = 2 ∨ v = 3 ∨ v = 4 ∨ v = 5 ∨ v = 6 ∨ v = 7 ∨ v = 8 ∨ v = 9 ∨ v = 10 ∨ v = 11 ∨ v = 12 ∨ v = 13 ∨ v = 14 ∨ v = 15 := by omega
  rcases h with rfl | rfl | rfl | rfl | rfl | rfl | rfl | rfl | rfl | rfl | rfl | rfl | rfl | rfl | rfl | rfl <;> rfl

set_option maxRecDepth 100000 in
set_option maxHeartbeats 4000000 in
/-- appendJSONString, onto a full slice. -/
theorem app25 (ao : Option Addr) (n : Nat) (lb : List Int) (s : ByteArray) (w : World) (hnil : NilZ ao n) (hv : View w ao n lb) (hn : n ≤ 1099511627776) (hs : s.size ≤ 1099511627776) :
    Calls Trym.prog 25 #[.slice ao n n, .string s] w fun e w' => ∃ v, e = .returned v ∧ Own w' w.heap.size v (lb ++ [34] ++ qt (sl s) ++ [34]) ∧ Below w.heap.size w w' := by
  obtain ⟨i5, hi, hz0, hz1, hz2⟩ := info_parts info5
  have hlb := hv.1
  have hqt := qt_len _ (sl s) (Nat.le_refl _)
  have hsl := sl_len s
  have HSL : Hid ((sl s).length = s.size) := hsl
  have hX : Hid (∃ X, X = lb ++ [34] ++ qt (sl s)) := ⟨_, rfl⟩
  have hql : (qt (sl s)).length ≤ 6 * s.size := by omega
  clear hqt hsl
  go_enter Trym.func25, Trym.ntmps25
  go_wp2_with (at_builtin; refine wpList_grow1 _ rfl (.tmp 8) (.tmp 9) 34 rfl i5 Trym.underlying34 hi hz0 hz1 hz2 ao n lb rfl hnil hv 34 (by omega) rfl (by omega) ?_; intro v0 w0 ho0 hb0)
  have HO : Hid (Own w0 w.heap.size v0 (lb ++ [34])) := ho0
  clear ho0 hv hnil
  go_wp2_with fail
  go_loopw [0, 5] (fun v i wr => ∃ (k : Nat) (D : List Int), k ≤ s.size ∧ i = .int .i64 k ∧ Own wr w.heap.size v D ∧ Hid (D ++ qt ((sl s).drop k) = lb ++ [34] ++ qt (sl s)) ∧ Below w.heap.size w wr) (fun _ i _ => s.size - (intOf i).toNat)
  case atStart => exact ⟨0, _, Nat.zero_le _, rfl, HO.out, by simp [Hid], hb0⟩
  case round =>
    clear HO hb0
    obtain ⟨k, D, hk, rfl, hown, hD, hbel⟩ := hrel
    have hDl := pre_len hD.out
    simp only [List.length_append, List.length_cons, List.length_nil] at hDl
    have hsz := hbel.size
    by_cases hlt : k < s.size
    case neg =>
      have hDe := end_qt (by rw [HSL.out]; omega) hD.out
      have HDE : Hid (D = lb ++ [34] ++ qt (sl s)) := hDe
      clear hDe hD
      go_wp2_with (at_builtin; refine wpList_pushL _ rfl (.tmp 78) (.tmp 79) 34 rfl w.heap.size i5 Trym.underlying34 hi hz0 hz1 hz2 _ D rfl hown _ [34] 1 rfl rfl (by intro x hx; simp at hx; omega) rfl (by omega) (by omega) ?_; intro v' w' ho' hb')
      go_ret
      exact ⟨_, rfl, ho'.cast (by rw [HDE.out]), hbel.trans (hb' _ (Nat.le_refl _))⟩
    have hlt' : (k : Int) < (s.size : Int) := by omega
    have hck := sl_at hlt
    have hby := Byt.at (sl_byt s) k
    by_cases hpair : Bt (sl s) k = 194 ∧ k + 1 < s.size ∧ Rg (Bt (sl s) (k + 1))
    · obtain ⟨h194, hk1, hrg⟩ := hpair
      have hck1 := sl_at hk1
      have hby1 := Byt.at (sl_byt s) (k + 1)
      have hD' : Hid _ := step_pair (by rw [HSL.out]; exact hk1) h194 hrg hD.out
      have hk1' : (k : Int) + 1 < (s.size : Int) := by omega
      generalize hdd : Bt (sl s) (k + 1) = d at *
      have HDD := show Hid _ from hdd
      rw [h194] at hck
      unfold Rg at hrg
      have x34 : (d == 34) = false := ne_beq (by omega)
      have x92 : (d == 92) = false := ne_beq (by omega)
      clear h194 hD hdd
      have a1 : 0 ≤ d / 16 := by omega
      have a2 : d / 16 < 16 := by omega
      have a3 : 0 ≤ d % 16 := by omega
      have a4 : d % 16 < 16 := by omega
      have hx1 := hex_at (d / 16) a1 a2 (by show (d / 16).toNat < 16; omega)
      have hx2 := hex_at (d % 16) a3 a4 (by show (d % 16).toNat < 16; omega)
      have hand := and15 hby1
      go_wp2_with fail
      go_region_law (refine step_pushL wr.drew rfl (.tmp 65) (.tmp 72) 34 rfl w.heap.size i5 Trym.underlying34 hi hz0 hz1 hz2 u0 D (by rfl) hown.drew #[.int .u8 92, .int .u8 117, .int .u8 48, .int .u8 48, .int .u8 (hx (d / 16)), .int .u8 (hx (d % 16))] (ue d) 6 rfl rfl (ue_byte hby1) (by rfl) (by omega) (by simp; omega) _ (by rfl) ?_; intro v' w' ho' hb')
      all_goals
        go_wp2_with fail
        go_roundw
        case rel => exact ⟨k + 1 + 1, _, by omega, by go_num, ho', hD', hbel.drew.trans (hb' _ (Nat.le_refl _))⟩
        case measure => simp [intOf]; omega
    · have hD0 := step_one (by rw [HSL.out]; exact hlt) (fun h1 h2 h3 => hpair ⟨h1, by rw [HSL.out] at h2; exact h2, h3⟩) hD.out
      have hnp : Hid (¬ (Bt (sl s) k = 194 ∧ k + 1 < s.size ∧ Rg (Bt (sl s) (k + 1)))) := hpair
      clear hpair hD
      generalize hcc : Bt (sl s) k = c at *
      have HCC : Hid (Bt (sl s) k = c) := hcc
      clear hcc
      by_cases h34 : c = 34
      · subst h34
        rw [one_esc (.inl rfl)] at hD0
        have hD' := show Hid _ from hD0
        clear hD0 hnp
        go_wp2_with (at_builtin; refine wpList_pushL _ rfl (.tmp 60) (.tmp 62) 34 rfl w.heap.size i5 Trym.underlying34 hi hz0 hz1 hz2 _ D rfl hown _ [92, 34] 2 rfl rfl (by intro x hx; simp at hx; omega) rfl (by omega) (by omega) ?_; intro v' w' ho' hb')
        go_roundw
        case rel => exact ⟨k + 1, _, by omega, by go_num, ho', hD', hbel.trans (hb' _ (Nat.le_refl _))⟩
        case measure => simp [intOf]; omega
      by_cases h92 : c = 92
      · subst h92
        rw [one_esc (.inr rfl)] at hD0
        have hD' := show Hid _ from hD0
        clear hD0 hnp
        go_wp2_with (at_builtin; refine wpList_pushL _ rfl (.tmp 60) (.tmp 62) 34 rfl w.heap.size i5 Trym.underlying34 hi hz0 hz1 hz2 _ D rfl hown _ [92, 92] 2 rfl rfl (by intro x hx; simp at hx; omega) rfl (by omega) (by omega) ?_; intro v' w' ho' hb')
        go_roundw
        case rel => exact ⟨k + 1, _, by omega, by go_num, ho', hD', hbel.trans (hb' _ (Nat.le_refl _))⟩
        case measure => simp [intOf]; omega
      have x34 := ne_beq h34
      have x92 := ne_beq h92
      by_cases hctl : c < 32 ∨ c = 127
      · rw [one_ctl hctl] at hD0
        have hD' := show Hid _ from hD0
        have hor : c < 32 ∨ (¬ c < 32 ∧ (c == 127) = true ∧ decide (c < 32) = false) := by
          by_cases e : c < 32
          · exact .inl e
          · exact .inr ⟨e, by simpa using hctl.resolve_left e, decide_eq_false e⟩
        have x194 : (c == 194) = false := ne_beq (by omega)
        clear hD0 hnp hctl
        rcases hor with e1 | ⟨e1, e2, e3⟩
        all_goals
          have a1 : 0 ≤ c / 16 := by omega
          have a2 : c / 16 < 16 := by omega
          have a3 : 0 ≤ c % 16 := by omega
          have a4 : c % 16 < 16 := by omega
          have hx1 := hex_at (c / 16) a1 a2 (by show (c / 16).toNat < 16; omega)
          have hx2 := hex_at (c % 16) a3 a4 (by show (c % 16).toNat < 16; omega)
          have hand := and15 hby
          go_wp2_with fail
          go_region_law (refine step_pushL wr.drew rfl (.tmp 65) (.tmp 72) 34 rfl w.heap.size i5 Trym.underlying34 hi hz0 hz1 hz2 u0 D (by rfl) hown.drew #[.int .u8 92, .int .u8 117, .int .u8 48, .int .u8 48, .int .u8 (hx (c / 16)), .int .u8 (hx (c % 16))] (ue c) 6 rfl rfl (ue_byte hby) (by rfl) (by omega) (by simp; omega) _ (by rfl) ?_; intro v' w' ho' hb')
          all_goals
            go_wp2_with fail
            go_roundw
            case rel => exact ⟨k + 1, _, by omega, by go_num, ho', hD', hbel.drew.trans (hb' _ (Nat.le_refl _))⟩
            case measure => simp [intOf]; omega
      · rw [one_raw h34 h92 (fun e => hctl (.inl e)) (fun e => hctl (.inr e))] at hD0
        have hD' := show Hid _ from hD0
        have x32 : decide (c < 32) = false := decide_eq_false (fun e => hctl (.inl e))
        have x127 : (c == 127) = false := ne_beq (fun e => hctl (.inr e))
        clear hD0
        by_cases h194 : c = 194
        · by_cases hk1 : k + 1 < s.size
          · have hck1 := sl_at hk1
            have hby1 := Byt.at (sl_byt s) (k + 1)
            have hk1' : (k : Int) + 1 < (s.size : Int) := by omega
            have hnr : ¬ Rg (Bt (sl s) (k + 1)) := fun h => hnp.out ⟨h194, hk1, h⟩
            unfold Rg at hnr
            generalize Bt (sl s) (k + 1) = d at *
            have x194 : (c == 194) = true := by simpa using h194
            clear hnp h194 hctl h34 h92
            by_cases hd : 128 ≤ d
            · have hd2 : decide (d < 160) = false := decide_eq_false (by omega)
              go_wp2_with (at_builtin; refine wpList_pushL _ rfl (.tmp 74) (.tmp 76) 34 rfl w.heap.size i5 Trym.underlying34 hi hz0 hz1 hz2 _ D rfl hown _ [c] 1 rfl rfl (by intro x hx; simp at hx; omega) rfl (by omega) (by omega) ?_; intro v' w' ho' hb')
              go_roundw
              case rel => exact ⟨k + 1, _, by omega, by go_num, ho', hD', hbel.trans (hb' _ (Nat.le_refl _))⟩
              case measure => simp [intOf]; omega
            · have hd2 : decide (128 ≤ d) = false := decide_eq_false hd
              go_wp2_with (at_builtin; refine wpList_pushL _ rfl (.tmp 74) (.tmp 76) 34 rfl w.heap.size i5 Trym.underlying34 hi hz0 hz1 hz2 _ D rfl hown _ [c] 1 rfl rfl (by intro x hx; simp at hx; omega) rfl (by omega) (by omega) ?_; intro v' w' ho' hb')
              go_roundw
              case rel => exact ⟨k + 1, _, by omega, by go_num, ho', hD', hbel.trans (hb' _ (Nat.le_refl _))⟩
              case measure => simp [intOf]; omega
          · have x194 : (c == 194) = true := by simpa using h194
            have hk2 : decide ((k : Int) + 1 < (s.size : Int)) = false := decide_eq_false (by omega)
            clear hnp h194 hctl h34 h92
            go_wp2_with (at_builtin; refine wpList_pushL _ rfl (.tmp 74) (.tmp 76) 34 rfl w.heap.size i5 Trym.underlying34 hi hz0 hz1 hz2 _ D rfl hown _ [c] 1 rfl rfl (by intro x hx; simp at hx; omega) rfl (by omega) (by omega) ?_; intro v' w' ho' hb')
            go_roundw
            case rel => exact ⟨k + 1, _, by omega, by go_num, ho', hD', hbel.trans (hb' _ (Nat.le_refl _))⟩
            case measure => simp [intOf]; omega
        · have x194 : (c == 194) = false := ne_beq h194
          clear hnp h194 hctl h34 h92
          go_wp2_with (at_builtin; refine wpList_pushL _ rfl (.tmp 74) (.tmp 76) 34 rfl w.heap.size i5 Trym.underlying34 hi hz0 hz1 hz2 _ D rfl hown _ [c] 1 rfl rfl (by intro x hx; simp at hx; omega) rfl (by omega) (by omega) ?_; intro v' w' ho' hb')
          go_roundw
          case rel => exact ⟨k + 1, _, by omega, by go_num, ho', hD', hbel.trans (hb' _ (Nat.le_refl _))⟩
          case measure => simp [intOf]; omega

end Go.Proofs.Qxb6601998aMods.Kp
