/-
  WALKS of seat b6601977aM: encodeBase58, ZZencodeBase58.
-/
import Derived.Test.Qxb6601977aModsWalkA
namespace Go.Proofs.Qxb6601977aMods.Kp
open Go.RowKit
set_option linter.unusedVariables false

theorem ne_beq {c k : Int} (h : c ≠ k) : (c == k) = false := by simpa using h

theorem sl_str {xs : List Int} (h : Byt xs) : sl (strOfNums xs) = xs := by
  simp only [sl, strOfNums_data, List.map_map]
  have e : ∀ n ∈ xs, ((fun b : UInt8 => ((b.toNat : Nat) : Int)) ∘ fun n : Int => UInt8.ofNat n.toNat) n = id n := by
    intro n hn
    have := h n hn
    simp only [Function.comp, id]
    rw [UInt8.toNat_ofNat']
    omega
  rw [List.map_congr_left e, List.map_id]

/-- What one byte does to the digits. -/
theorem enc_step {lb : List Int} {k : Nat} (h : k < lb.length) : enc [] (lb.take (k + 1)) = step (enc [] (lb.take k)) (Bt lb k) := by
  rw [bt_take h, enc_app]; rfl

theorem set_mid {A B : List Int} {d x : Int} {i : Nat} (h : A.length = i) : (A ++ d :: B).set i x = (A ++ [x]) ++ B := by
  rw [List.set_append_right _ _ (by omega), h, Nat.sub_self, List.set_cons_zero]; simp

theorem bt_mid {A B : List Int} {d : Int} {i : Nat} (h : A.length = i) : Bt (A ++ d :: B) i = d := by
  subst h; simp [Bt]
theorem digs_at {D : List Int} {i : Nat} (h : Cn D) (hi : i < D.length) : 0 ≤ Bt D i ∧ Bt D i < 58 := by
  have := cn_digs h D[i] (List.getElem_mem hi)
  simpa [Bt, List.getD, hi] using this

theorem al_fin : ∀ m : Fin 58, ((((ByteArray.mk #[49, 50, 51, 52, 53, 54, 55, 56, 57, 65, 66, 67, 68, 69, 70, 71, 72, 74, 75, 76, 77, 78, 80, 81, 82, 83, 84, 85, 86, 87, 88, 89, 90, 97, 98, 99, 100, 101, 102, 103, 104, 105, 106, 107, 109, 110, 111, 112, 113, 114, 115, 116, 117, 118, 119, 120, 121, 122])[m.val]'m.2).toNat : Nat) : Int) = al (m.val : Int) := by decide +kernel
theorem al_at (v : Int) (h0 : 0 ≤ v) (h1 : v < 58) (hp : v.toNat < (ByteArray.mk #[49, 50, 51, 52, 53, 54, 55, 56, 57, 65, 66, 67, 68, 69, 70, 71, 72, 74, 75, 76, 77, 78, 80, 81, 82, 83, 84, 85, 86, 87, 88, 89, 90, 97, 98, 99, 100, 101, 102, 103, 104, 105, 106, 107, 109, 110, 111, 112, 113, 114, 115, 116, 117, 118, 119, 120, 121, 122]).size) :
    ((((ByteArray.mk #[49, 50, 51, 52, 53, 54, 55, 56, 57, 65, 66, 67, 68, 69, 70, 71, 72, 74, 75, 76, 77, 78, 80, 81, 82, 83, 84, 85, 86, 87, 88, 89, 90, 97, 98, 99, 100, 101, 102, 103, 104, 105, 106, 107, 109, 110, 111, 112, 113, 114, 115, 116, 117, 118, 119, 120, 121, 122])[v.toNat]'hp).toNat : Nat) : Int) = al v := by
  obtain ⟨m, rfl⟩ := Int.eq_ofNat_of_zero_le h0
  exact al_fin ⟨m, by omega⟩

theorem rev_set {m j : Nat} {R : List Int} {x : Int} (h : j < m) : (List.replicate (m - j) 0 ++ R).set (m - 1 - j) x = List.replicate (m - (j + 1)) 0 ++ x :: R := by
  have e : m - j = (m - (j + 1)) + 1 := by omega
  rw [e, List.replicate_succ', List.append_assoc, show m - 1 - j = m - (j + 1) by omega]
  exact set_mid (A := List.replicate (m - (j + 1)) 0) (d := 0) (B := R) (by simp) |>.trans (by simp)
theorem rev_al {D : List Int} {j : Nat} (h : j < D.length) : (D.take (j + 1)).reverse.map al = al (Bt D j) :: (D.take j).reverse.map al := by
  rw [bt_take h]; simp

set_option maxRecDepth 100000 in
set_option maxHeartbeats 4000000 in
/-- encodeBase58. -/
theorem enc27 (ao : Option Addr) (n cap : Nat) (lb : List Int) (w : World) (hv : View w ao n lb) (hn : n ≤ 4096) :
    Calls Trym.prog 27 #[.slice ao n cap] w fun e w' => ∃ s, e = .returned (.string s) ∧ sl s = (enc [] lb).reverse.map al ∧ Below w.heap.size w w' := by
  obtain ⟨i5, hi, hz0, hz1, hz2⟩ := info_parts info5
  have hlb := hv.1
  have HBy : Hid (Byt lb) := hv.2.1
  have HV : Hid (View w ao n lb) := hv
  have HE : Hid (∀ k, k ≤ n → Cn (enc [] (lb.take k)) ∧ (enc [] (lb.take k)).length ≤ 2 * k) := fun k hk => by
    have := enc_ok (lb.take k) [] (fun c hc => hv.2.1 c (List.take_subset _ _ hc)) trivial
    refine ⟨this.1, ?_⟩
    have h2 := this.2.2
    have h3 : (lb.take k).length = k := by simp; omega
    rw [h3] at h2
    simpa using h2
  clear hv
  go_enter Trym.func27, Trym.ntmps27
  go_wp2_with fail
  go_loopw [3, 13] (fun v x wr => ∃ k : Nat, k ≤ n ∧ x = .int .i64 k ∧ Own wr w.heap.size v (enc [] (lb.take k)) ∧ Below w.heap.size w wr) (fun _ x _ => n - (intOf x).toNat)
  case atStart => exact ⟨0, Nat.zero_le _, rfl, Own.nil _ _, Below.refl _ _⟩
  case round =>
    obtain ⟨k, hk, rfl, hown, hbel⟩ := hrel
    have hE := HE.out k hk
    have hsz := hbel.size
    by_cases hlt : k < n
    case neg =>
      obtain rfl : k = n := by omega
      obtain ⟨wq, rfl⟩ : ∃ wq, wq = wr := ⟨wr, rfl⟩
      have hD : enc [] (lb.take k) = enc [] lb := by rw [List.take_of_length_le (by omega)]
      rw [hD] at hown hE
      generalize hDe : enc [] lb = D at *
      have HDe : Hid (enc [] lb = D) := hDe
      clear hDe
      have HCn : Hid (Cn D) := hE.1
      have hDl := hE.2
      obtain ⟨ao3, c3, hu, hV3, hc3, _⟩ := hown.shape
      have HV3 : Hid (View wq ao3 D.length D) := hV3
      subst hu
      clear hE hD hown hV3 HE
      go_wp2_with (at_make; refine wpList_make_full _ rfl _ _ 22 rfl wq.heap.size 5 i5 (.int .u8 0) 1 Trym.underlying22 hi hz0 hz1 _ _ _ _ D.length rfl rfl (by omega) (by omega) (by rw [hz2]; omega) (by unfold maxLen; omega) (by omega) ?_)
      intro w1 hown hgrow
      have ho : Own w1 wq.heap.size (.slice (some ⟨wq.heap.size, 0, none⟩) D.length D.length) (List.replicate (D.length - 0) 0 ++ ((D.take 0).reverse.map al)) := (Own.made hown).cast (by simp)
      have hb : Below wq.heap.size wq w1 := (Below.refl _ _).grown hgrow (Nat.le_refl _) (by simp)
      have HO := show Hid _ from ho
      clear hown hgrow ho
      go_wp2_with fail
      go_loopw [57] (fun x wr' => ∃ j : Nat, j ≤ D.length ∧ x = .int .i64 j ∧ Own wr' wq.heap.size (.slice (some ⟨wq.heap.size, 0, none⟩) D.length D.length) (List.replicate (D.length - j) 0 ++ ((D.take j).reverse.map al)) ∧ Below wq.heap.size wq wr') (fun x _ => D.length - (intOf x).toNat)
      case atStart => exact ⟨0, Nat.zero_le _, rfl, HO.out, hb⟩
      case round =>
        clear HO hb
        obtain ⟨j, hj, rfl, hown, hbel2⟩ := hrel
        have hlen : (List.replicate (D.length - j) 0 ++ ((D.take j).reverse.map al)).length = D.length := by simp; omega
        by_cases hjD : j < D.length
        · have hd := digs_at HCn.out hjD
          obtain ⟨b3, o3, hao3, hcc3⟩ := HV3.out.cells (by omega)
          have hb3 : b3 < wq.heap.size := World.block_lt_of_cell? wq _ (hcc3 j hjD)
          have gd : wr.cell? ⟨b3, o3 + j, none⟩ = some (.int .u8 (Bt D j)) := (hbel2.cell (p := ⟨b3, o3 + j, none⟩) hb3).trans (hcc3 j hjD)
          have gt := hown.cell hlen (D.length - 1 - j) (by omega)
          have gf := hown.free hlen (D.length - 1 - j)
          have hset := hown.set hlen (D.length - 1 - j) (al (Bt D j)) (al_byte hd.1 hd.2)
          rw [rev_set hjD, ← rev_al hjD] at hset
          have HSet := show Hid _ from hset
          have hj1 : (0 : Int) ≤ (D.length : Int) - 1 - (j : Int) := by omega
          have hj2 : (D.length : Int) - 1 - (j : Int) < (D.length : Int) := by omega
          have hj3 : ((D.length : Int) - 1 - (j : Int)).toNat = D.length - 1 - j := by omega
          have hj4 : (j : Int) < (D.length : Int) := by omega
          have hbel3 := hbel2.setCell (p := ⟨wq.heap.size, D.length - 1 - j, none⟩) (Nat.le_refl _) (.int .u8 (al (Bt D j)))
          have hal := al_at (Bt D j) hd.1 hd.2 (by show (Bt D j).toNat < 58; omega)
          have hd1 := hd.1
          have hd2 := hd.2
          subst hao3
          clear hcc3 hset hown hlen
          go_wp2_with fail
          go_roundw
          case rel => exact ⟨j + 1, by omega, by go_num, HSet.out, hbel3⟩
          case measure => simp [intOf]; omega
        · obtain rfl : j = D.length := by omega
          have hfin : Own wr wq.heap.size (.slice (some ⟨wq.heap.size, 0, none⟩) D.length D.length) (D.reverse.map al) := hown.cast (by simp)
          have hbyr : Byt (D.reverse.map al) := hfin.2
          have hcv := run_convert_bytes_arg (P := Trym.prog) wr 22 5 Trym.underlying22 Trym.underlying5 wq.heap.size 0 D.length D.length (D.reverse.map al) (by simp) (fun i hi => by rw [Nat.zero_add]; exact hfin.cell (by simp) i hi) 9 Trym.underlying9
          have HSl : Hid (sl (strOfNums (D.reverse.map al)) = (enc [] lb).reverse.map al) := by rw [Hid, sl_str hbyr, HDe.out]
          generalize strOfNums (D.reverse.map al) = st at *
          have hbw : Below w.heap.size w wr := hbel.trans (hbel2.mono hbel.size)
          clear hfin hbyr hown hlen hbel2
          go_wp2_with fail
          go_ret
          exact ⟨_, rfl, HSl.out, hbw⟩
    obtain ⟨b0, o0, hao, hcc⟩ := HV.out.cells (by omega)
    have hb0 : b0 < w.heap.size := World.block_lt_of_cell? w _ (hcc k hlt)
    have g1 : wr.cell? ⟨b0, o0 + k, none⟩ = some (.int .u8 (Bt lb k)) := (hbel.cell (p := ⟨b0, o0 + k, none⟩) hb0).trans (hcc k hlt)
    have hlt' : (k : Int) < (n : Int) := by omega
    have hst : Hid (enc [] (lb.take (k + 1)) = step (enc [] (lb.take k)) (Bt lb k)) := enc_step (by omega)
    have hby := Byt.at HBy.out k
    generalize enc [] (lb.take k) = D at *
    generalize Bt lb k = c at *
    have HCn : Hid (Cn D) := hE.1
    have hDl := hE.2
    obtain ⟨ao3, c3, hu, hV3, hc3, _⟩ := hown.shape
    subst hao
    clear hE hcc hV3
    subst hu
    go_wp2_with fail
    have HO : Hid (Own wr w.heap.size (.slice ao3 D.length c3) ([] ++ D.drop 0)) := by simpa [Hid] using hown
    clear hown
    go_loopw [6, 21] (fun cv x wr' => ∃ (i : Nat) (cc : Int) (A : List Int), i ≤ D.length ∧ x = .int .i64 i ∧ cv = .int .i64 cc ∧ 0 ≤ cc ∧ cc ≤ 255 ∧ Hid (A.length = i) ∧ Own wr' w.heap.size (.slice ao3 D.length c3) (A ++ D.drop i) ∧ Below w.heap.size w wr' ∧ Hid (A ++ (mulF (D.drop i) cc).1 = (mulF D c).1 ∧ (mulF (D.drop i) cc).2 = (mulF D c).2)) (fun _ x _ => D.length - (intOf x).toNat)
    case atStart => exact ⟨0, c, [], Nat.zero_le _, rfl, rfl, hby.1, hby.2, rfl, HO.out, hbel, by simp [Hid]⟩
    case round =>
      clear HO hbel g1 hsz
      obtain ⟨i, cc, A, hi', rfl, rfl, hc0, hc1, hA, hown, hbel, hM⟩ := hrel
      have hsz := hbel.size
      by_cases hiD : i < D.length
      · have hd := digs_at HCn.out hiD
        have hlen : (A ++ D.drop i).length = D.length := by have := hA.out; simp; omega
        obtain ⟨g, c3', hu, _, _, _, _, _⟩ := hown.shape' (by omega)
        simp only [Value.slice.injEq] at hu
        obtain ⟨hu1, hu2, hu3⟩ := hu
        have hmid := hown
        subst hu1
        have gd := hown.cell hlen i hiD
        have gf := hown.free hlen i
        rw [bt_drop hiD, bt_mid hA.out] at gd
        have hset := fun x hx => hown.set hlen i x hx
        have hset' : ∀ x, 0 ≤ x ∧ x ≤ 255 → Own (wr.setCell ⟨g, i, none⟩ (.int .u8 x)) w.heap.size (.slice (some ⟨g, 0, none⟩) D.length c3) ((A ++ [x]) ++ D.drop (i + 1)) := fun x hx => by
          have := hset x hx
          rw [bt_drop hiD, set_mid hA.out] at this
          exact this
        have HSet := show Hid _ from hset'
        generalize hDd : Bt D i = d at *
        have HDd : Hid (Bt D i = d) := hDd
        clear hDd
        have hi2 : (i : Int) < (D.length : Int) := by omega
        clear hset hset' hu2 hu3 hmid hown
        have hM' : Hid ((A ++ [(cc + d * 256) % 58]) ++ (mulF (D.drop (i + 1)) ((cc + d * 256) / 58)).1 = (mulF D c).1 ∧ (mulF (D.drop (i + 1)) ((cc + d * 256) / 58)).2 = (mulF D c).2) := by
          have h := hM.out
          rw [bt_drop hiD, HDd.out, (mulF_cons _ _ _).1, (mulF_cons _ _ _).2] at h
          exact ⟨by rw [← h.1]; simp, h.2⟩
        clear hM
        go_wp2_with fail
        go_roundw
        case rel => exact ⟨i + 1, (cc + d * 256) / 58, A ++ [(cc + d * 256) % 58], by omega, by go_num, by go_num, by omega, by omega, by have := hA.out; show (A ++ [_]).length = i + 1; simp; omega, HSet.out _ (by omega), hbel.setCell (by omega) _, hM'⟩
        case measure => simp [intOf]; omega
      · obtain rfl : i = D.length := by omega
        rw [List.drop_eq_nil_of_le (Nat.le_refl _)] at hown
        have hM2 := hM.out
        rw [List.drop_eq_nil_of_le (Nat.le_refl _)] at hM2
        simp only [mulF, List.append_nil] at hM2 hown
        have hAl := hA.out
        have HStep : Hid (A ++ tailD cc = step D c) := by
          have h : step D c = (mulF D c).1 ++ tailD (mulF D c).2 := rfl
          rw [Hid, h, ← hM2.1, ← hM2.2]
        have HOw : Hid (Own wr w.heap.size (.slice ao3 D.length c3) A) := hown
        have hslen := step_len D c
        clear hM hM2 hown hA
        go_wp2_with fail
        go_loopw [3, 6] (fun v cv wr' => ∃ (cc : Int) (A : List Int), cv = .int .i64 cc ∧ 0 ≤ cc ∧ cc ≤ 255 ∧ Own wr' w.heap.size v A ∧ Below w.heap.size w wr' ∧ Hid (A ++ tailD cc = step D c)) (fun _ cv _ => (intOf cv).toNat)
        case atStart => exact ⟨cc, A, rfl, hc0, hc1, HOw.out, hbel, HStep⟩
        case round =>
          clear HOw hbel HStep hsz hc0 hc1 hAl
          obtain ⟨c2, A2, rfl, hc20, hc21, hown2, hbel2, hS⟩ := hrel
          have hsz2 := hbel2.size
          have hAl2 := pre_len hS.out
          by_cases hcp : 0 < c2
          · have hS' : Hid ((A2 ++ [c2 % 58]) ++ tailD (c2 / 58) = step D c) := by
              have := hS.out
              rw [tailD_pos hcp hc21] at this
              rw [Hid, ← this]; simp
            clear hS
            go_wp2_with (at_builtin; refine wpList_push _ rfl (.tmp 43) (.tmp 47) 22 rfl w.heap.size i5 Trym.underlying22 hi hz0 hz1 hz2 _ A2 rfl hown2 (c2 % 58) (by omega) rfl (by omega) (by omega) ?_; intro v' w' ho' hb')
            go_roundw
            case rel => exact ⟨c2 / 58, _, by go_num, by omega, by omega, ho', hbel2.trans (hb' _ (Nat.le_refl _)), hS'⟩
            case measure => simp [intOf]; omega
          · have hA2 : Hid (A2 = step D c) := by
              have := hS.out
              rw [tailD_zero (by omega)] at this
              simpa [Hid] using this
            clear hS
            go_wp2_with fail
            go_roundw
            case rel => exact ⟨k + 1, by omega, by go_num, hown2.cast (by rw [hst.out, hA2.out]), hbel2⟩
            case measure => simp [intOf]; omega

end Go.Proofs.Qxb6601977aMods.Kp
