/-
  WALKS of seat b6601977aM: b58Char, modelEncode58.
-/
import Derived.Test.Qxb6601977aModsWalkD
namespace Go.Proofs.Qxb6601977aMods.Kp
open Go.RowKit
set_option linter.unusedVariables false

/-- b58Char. -/
theorem char28 (d : Int) (w : World) (h0 : 0 ≤ d) (h1 : d < 58) : Calls Trym.prog 28 #[.int .i64 d] w fun e w' => e = .returned (.int .u8 (al d)) ∧ w = w' := by
  by_cases c9 : d < 9
  · have H : Hid (al d = 49 + d) := by rw [Hid, al, if_pos c9]
    go_enter Trym.func28, Trym.ntmps28
    go_wp2
    go_ret
    exact ⟨by rw [H.out]; rfl, rfl⟩
  by_cases c17 : d < 17
  · have H : Hid (al d = 65 + d - 9) := by rw [Hid, al, if_neg (show ¬ d < 9 by omega), if_pos c17]
    go_enter Trym.func28, Trym.ntmps28
    go_wp2
    go_ret
    exact ⟨by rw [H.out]; rfl, rfl⟩
  by_cases c22 : d < 22
  · have H : Hid (al d = 74 + d - 17) := by rw [Hid, al, if_neg (show ¬ d < 9 by omega), if_neg (show ¬ d < 17 by omega), if_pos c22]
    go_enter Trym.func28, Trym.ntmps28
    go_wp2
    go_ret
    exact ⟨by rw [H.out]; rfl, rfl⟩
  by_cases c33 : d < 33
  · have H : Hid (al d = 80 + d - 22) := by rw [Hid, al, if_neg (show ¬ d < 9 by omega), if_neg (show ¬ d < 17 by omega), if_neg (show ¬ d < 22 by omega), if_pos c33]
    go_enter Trym.func28, Trym.ntmps28
    go_wp2
    go_ret
    exact ⟨by rw [H.out]; rfl, rfl⟩
  by_cases c44 : d < 44
  · have H : Hid (al d = 97 + d - 33) := by rw [Hid, al, if_neg (show ¬ d < 9 by omega), if_neg (show ¬ d < 17 by omega), if_neg (show ¬ d < 22 by omega), if_neg (show ¬ d < 33 by omega), if_pos c44]
    go_enter Trym.func28, Trym.ntmps28
    go_wp2
    go_ret
    exact ⟨by rw [H.out]; rfl, rfl⟩
  have H : Hid (al d = 109 + d - 44) := by rw [Hid, al, if_neg (show ¬ d < 9 by omega), if_neg (show ¬ d < 17 by omega), if_neg (show ¬ d < 22 by omega), if_neg (show ¬ d < 33 by omega), if_neg (show ¬ d < 44 by omega)]
  go_enter Trym.func28, Trym.ntmps28
  go_wp2
  go_ret
  exact ⟨by rw [H.out]; rfl, rfl⟩

/-- The length in a slot. -/
def lenOf : Value → Nat
  | .slice _ n _ => n
  | _ => 0

theorem Own.set_below {w : World} {base : Nat} {v : Value} {l : List Int} (h : Own w base v l) {a : Addr} (ha : a.block < base) (u : Value) : Own (w.setCell a u) base v l := ⟨ownsRow_setCell_below h.1 ha u, h.2⟩
theorem Own.kept_at {w w' : World} {base B g n cap : Nat} {l : List Int} (h : Own w base (.slice (some ⟨g, 0, none⟩) n cap) l) (hb : Below B w w') (hg : g < B) : Own w' base (.slice (some ⟨g, 0, none⟩) n cap) l := by
  refine ⟨⟨h.1.1, ?_⟩, h.2⟩
  rcases h.1.2 with ⟨e, _⟩ | ⟨g', cap', cur, e, hg', hh, r⟩
  · cases e
  · simp only [Value.slice.injEq, Option.some.injEq, Addr.mk.injEq, and_true] at e
    obtain ⟨rfl, hl, rfl⟩ := e
    exact .inr ⟨g, cap, cur, by rw [hl], hg', by rw [hb.block g hg]; exact hh, r⟩

theorem bt_rev {Y : List Int} {j : Nat} (h : j < Y.length) : Bt Y.reverse j = Bt Y (Y.length - 1 - j) := by
  simp only [Bt, List.getD]
  rw [List.getElem?_reverse h]

/-- What is known behind one digit. -/
def F2OK (w' : World) (g k o i kk : Nat) (P A' D R' E : List Int) (rem : Int) : Prop :=
  (P ++ A').length = k ∧ Dg 256 ((P ++ A').drop (o + kk)) ∧ Nz ((P ++ A').drop (o + kk)) ∧ Cn R' ∧ v58 R' = hb 256 0 ((P ++ A').drop (o + kk)) ∧ (D ++ [rem]) ++ R' = E

set_option maxRecDepth 100000 in
set_option maxHeartbeats 8000000 in
/-- modelEncode58: the same text. -/
theorem model12 (ao : Option Addr) (n cap : Nat) (lb : List Int) (w : World) (hv : View w ao n lb) (hn : n ≤ 4096) (hcap : n ≤ cap) (hcm : cap ≤ maxLen) :
    Calls Trym.prog 12 #[.slice ao n cap] w fun e w' => ∃ s, e = .returned (.string s) ∧ sl s = (enc [] lb).reverse.map al ∧ Below w.heap.size w w' := by
  obtain ⟨i5, hi, hz0, hz1, hz2⟩ := info_parts info5
  have hEnc := enc_ok lb [] hv.2.1 trivial
  have HCn : Hid (Cn (enc [] lb)) := hEnc.1
  have HVal : Hid (v58 (enc [] lb) = hb 256 0 (strip lb)) := by rw [Hid, hEnc.2.1, strip_hb]; rfl
  have hEl : (enc [] lb).length ≤ 8192 := by have h1 := hEnc.2.2; have h2 := hv.1; simp at h1; omega
  have HDg : Hid (Dg 256 (strip lb)) := strip_dg hv.2.1
  have HNz : Hid (Nz (strip lb)) := strip_nz lb
  have HRes : Hid (∀ s, sl s = (enc [] lb).reverse.map al → sl s = (enc [] lb).reverse.map al) := fun s h => h
  clear hEnc
  go_enter Trym.func12, Trym.ntmps12
  go_wp2_with fail
  refine (strip22 ao n cap lb _ (by exact hv) (by omega) hcap hcm).mono ?_
  rintro e w1 ⟨rfl, a1, n1, c1, rfl, hV1, hc1, hn1, _⟩
  have HE : Hid (∃ E, E = enc [] lb) := ⟨_, rfl⟩
  generalize hE : enc [] lb = E at HCn HVal hEl HRes
  have HEE : Hid (enc [] lb = E) := hE
  generalize strip lb = A at *
  have hAl := hV1.1
  have HV1 : Hid (View w a1 n1 A) := hV1
  have HBy : Hid (Byt A) := hV1.2.1
  have HAl : Hid (A.length = n1) := hAl
  clear hv hV1 hE HE hAl
  go_wp2_with (at_make; refine wpList_make_full _ rfl _ _ 22 rfl w.heap.size 5 i5 (.int .u8 0) 1 Trym.underlying22 hi hz0 hz1 _ _ _ _ n1 rfl rfl (by omega) (by omega) (by rw [hz2]; omega) (by unfold maxLen; omega) (by omega) ?_)
  intro w2 hown hgrow
  have ho : Own w2 w.heap.size (.slice (some ⟨w.heap.size, 0, none⟩) n1 n1) (A.take 0 ++ List.replicate (n1 - 0) 0) := (Own.made hown).cast (by simp)
  have hb : Below w.heap.size w w2 := (Below.refl _ _).grown hgrow (Nat.le_refl _) (by simp)
  have HO : Hid (Own w2 w.heap.size (.slice (some ⟨w.heap.size, 0, none⟩) n1 n1) (A.take 0 ++ List.replicate (n1 - 0) 0)) := ho
  clear hown hgrow ho
  go_wp2_with fail
  go_loopw [4] (fun i wr => ∃ k : Nat, k ≤ n1 ∧ i = .int .i64 k ∧ Own wr w.heap.size (.slice (some ⟨w.heap.size, 0, none⟩) n1 n1) (A.take k ++ List.replicate (n1 - k) 0) ∧ Below w.heap.size w wr) (fun i _ => n1 - (intOf i).toNat)
  case atStart => exact ⟨0, Nat.zero_le _, rfl, HO.out, hb⟩
  case round =>
    obtain ⟨k, hk, rfl, hown, hbel⟩ := hrel
    clear HO hb
    by_cases hlt : k < n1
    · have hlen : (A.take k ++ List.replicate (n1 - k) 0).length = n1 := by have := HAl.out; simp; omega
      obtain ⟨b1, o1, hao, hc1'⟩ := HV1.out.cells (by omega)
      have hb1 : b1 < w.heap.size := World.block_lt_of_cell? w _ (hc1' k hlt)
      have g1 : wr.cell? ⟨b1, o1 + k, none⟩ = some (.int .u8 (Bt A k)) := (hbel.cell (p := ⟨b1, o1 + k, none⟩) hb1).trans (hc1' k hlt)
      have g2 := hown.cell hlen k hlt
      have g3 := hown.free hlen k
      have hset := hown.set hlen k (Bt A k) (Byt.at HBy.out k)
      rw [fill_step HAl.out hlt] at hset
      have hbel' := hbel.setCell (p := ⟨w.heap.size, k, none⟩) (Nat.le_refl _) (.int .u8 (Bt A k))
      have hlt' : (k : Int) < (n1 : Int) := by omega
      subst hao
      clear hc1' hown hbel hlen
      go_wp2_with fail
      go_roundw
      case rel => exact ⟨k + 1, by omega, by go_num, hset, hbel'⟩
      case measure => simp [intOf]; omega
    · obtain rfl : k = n1 := by omega
      obtain ⟨wq, rfl⟩ : ∃ wq, wq = wr := ⟨wr, rfl⟩
      have ho : Own wq w.heap.size (.slice (some ⟨w.heap.size, 0, none⟩) k k) A := hown.cast (by have := HAl.out; simp; rw [List.take_of_length_le (by omega)])
      have hgs : w.heap.size + 1 ≤ wq.heap.size := by have := ho.1.lt w.heap.size rfl; omega
      have HO : Hid (Own wq w.heap.size (.slice (some ⟨w.heap.size, 0, none⟩) k k) A) := ho
      clear hown ho
      go_wp2_with fail
      go_loopw [3, 5] (fun nv rv wr => ∃ (o m : Nat) (ao' : Option Addr) (F D R : List Int), nv = .slice ao' m m ∧ o + m ≤ k ∧ k ≤ o + m ∧ Hid (0 < m → ao' = some ⟨w.heap.size, o, none⟩) ∧
          Own wr w.heap.size (.slice (some ⟨w.heap.size, 0, none⟩) k k) F ∧ Hid (F.length = k) ∧ Hid (Dg 256 (F.drop o)) ∧ Hid (Nz (F.drop o)) ∧ Hid (Cn R ∧ v58 R = Kp.hb 256 0 (F.drop o)) ∧
          Own wr (w.heap.size + 1) rv (D.map al) ∧ Hid (D ++ R = E) ∧ Below w.heap.size w wr ∧ w.heap.size + 1 ≤ wr.heap.size) (fun _ rv _ => E.length - lenOf rv)
      case atStart => exact ⟨0, k, some ⟨w.heap.size, 0, none⟩, A, [], E, rfl, by omega, by omega, fun _ => rfl, HO.out, HAl.out, by simpa [Hid] using HDg.out, by simpa [Hid] using HNz.out, ⟨HCn.out, by simpa using HVal.out⟩, Own.nil _ _, by simp [Hid], hbel, hgs⟩
      case round =>
        clear HO hbel hgs HDg HNz HVal HBy
        obtain ⟨o, m, ao', F, D, R, rfl, hom1, hom2, hao, hrow, hFl, hDg, hNz, hR, hrev, hDR, hbel, hgs⟩ := hrel
        by_cases hm : 0 < m
        case neg =>
          have hDE : D = E := by
            have h1 := hR.out
            have h2 : F.drop o = [] := List.drop_eq_nil_of_le (by have := hFl.out; omega)
            rw [h2] at h1
            have h3 : R = [] := by
              rcases Classical.em (R = []) with h | h
              · exact h
              · have := (cn_pos R h1.1).2 h; rw [h1.2] at this; simp [Kp.hb] at this
            have h4 := hDR.out
            rw [h3] at h4
            simpa using h4
          subst hDE
          obtain rfl : m = 0 := by omega
          obtain ⟨wp, rfl⟩ : ∃ wp, wp = wr := ⟨wr, rfl⟩
          obtain ⟨a5, c5, hu5, hV5, hc5, _⟩ := hrev.shape
          rw [List.length_map] at hu5 hV5 hc5
          have HV5 : Hid (View wp a5 D.length (D.map al)) := hV5
          have HB5 : Hid (Byt (D.map al)) := hV5.2.1
          subst hu5
          clear hR hDR hao hrow hFl hDg hNz hrev hV5 HCn
          go_wp2_with (at_make; refine wpList_make_full _ rfl _ _ 22 rfl wp.heap.size 5 i5 (.int .u8 0) 1 Trym.underlying22 hi hz0 hz1 _ _ _ _ D.length rfl rfl (by omega) (by omega) (by rw [hz2]; omega) (by unfold maxLen; omega) (by omega) ?_)
          intro w5 hown5 hgrow5
          have ho5 : Own w5 wp.heap.size (.slice (some ⟨wp.heap.size, 0, none⟩) D.length D.length) ((D.map al).reverse.take 0 ++ List.replicate (D.length - 0) 0) := (Own.made hown5).cast (by simp)
          have hb5 : Below wp.heap.size wp w5 := (Below.refl _ _).grown hgrow5 (Nat.le_refl _) (by simp)
          have HO5 : Hid (Own w5 wp.heap.size (.slice (some ⟨wp.heap.size, 0, none⟩) D.length D.length) ((D.map al).reverse.take 0 ++ List.replicate (D.length - 0) 0)) := ho5
          clear hown5 hgrow5 ho5
          go_wp2_with fail
          go_loopw [11] (fun x wr' => ∃ j : Nat, j ≤ D.length ∧ x = .int .i64 j ∧ Own wr' wp.heap.size (.slice (some ⟨wp.heap.size, 0, none⟩) D.length D.length) ((D.map al).reverse.take j ++ List.replicate (D.length - j) 0) ∧ Below wp.heap.size wp wr') (fun x _ => D.length - (intOf x).toNat)
          case atStart => exact ⟨0, Nat.zero_le _, rfl, HO5.out, hb5⟩
          case round =>
            clear HO5 hb5
            obtain ⟨j, hj, rfl, hown, hbel2⟩ := hrel
            have hlen : ((D.map al).reverse.take j ++ List.replicate (D.length - j) 0).length = D.length := by simp; omega
            by_cases hjD : j < D.length
            · obtain ⟨b3, o3, hao3, hcc3⟩ := HV5.out.cells (by omega)
              have hb3 : b3 < wp.heap.size := World.block_lt_of_cell? wp _ (hcc3 j hjD)
              have gd : wr.cell? ⟨b3, o3 + (D.length - 1 - j), none⟩ = some (.int .u8 (Bt (D.map al) (D.length - 1 - j))) := (hbel2.cell (p := ⟨b3, o3 + (D.length - 1 - j), none⟩) hb3).trans (hcc3 _ (by omega))
              have hrv : Bt (D.map al).reverse j = Bt (D.map al) (D.length - 1 - j) := by rw [bt_rev (by simpa using hjD), List.length_map]
              rw [← hrv] at gd
              have gt := hown.cell hlen j hjD
              have gf := hown.free hlen j
              have hset := hown.set hlen j (Bt (D.map al).reverse j) (by rw [hrv]; exact Byt.at HB5.out _)
              rw [fill_step (by simp) hjD] at hset
              have HSet := show Hid (Own _ _ _ _) from hset
              have hj1 : (0 : Int) ≤ (D.length : Int) - 1 - (j : Int) := by omega
              have hj2 : (D.length : Int) - 1 - (j : Int) < (D.length : Int) := by omega
              have hj3 : ((D.length : Int) - 1 - (j : Int)).toNat = D.length - 1 - j := by omega
              have hj4 : (j : Int) < (D.length : Int) := by omega
              have hbel3 := hbel2.setCell (p := ⟨wp.heap.size, j, none⟩) (Nat.le_refl _) (.int .u8 (Bt (D.map al).reverse j))
              subst hao3
              clear hcc3 hset hown hlen hrv
              generalize Bt (D.map al).reverse j = y at *
              go_wp2_with fail
              go_roundw
              case rel => exact ⟨j + 1, by omega, by go_num, HSet.out, hbel3⟩
              case measure => simp [intOf]; omega
            · obtain rfl : j = D.length := by omega
              have hfin : Own wr wp.heap.size (.slice (some ⟨wp.heap.size, 0, none⟩) D.length D.length) (D.reverse.map al) := hown.cast (by rw [Nat.sub_self, List.take_of_length_le (by simp)]; simp)
              have hbyr : Byt (D.reverse.map al) := hfin.2
              have hcv := run_convert_bytes_arg (P := Trym.prog) wr 22 5 Trym.underlying22 Trym.underlying5 wp.heap.size 0 D.length D.length (D.reverse.map al) (by simp) (fun i hi => by rw [Nat.zero_add]; exact hfin.cell (by simp) i hi) 9 Trym.underlying9
              have HSl : Hid (sl (strOfNums (D.reverse.map al)) = (enc [] lb).reverse.map al) := by rw [Hid, sl_str hbyr, HEE.out]
              generalize strOfNums (D.reverse.map al) = st at *
              have hbw : Below w.heap.size w wr := hbel.trans (hbel2.mono hbel.size)
              clear hfin hbyr hown hlen hbel2
              go_wp2_with fail
              go_ret
              exact ⟨_, rfl, HSl.out, hbw⟩
        have hao2 := hao.out hm
        subst hao2
        obtain ⟨P, N, hPN, hPl, hNl⟩ : ∃ P N : List Int, F = P ++ N ∧ P.length = o ∧ N.length = m := ⟨F.take o, F.drop o, (List.take_append_drop _ _).symm, by have := hFl.out; simp; omega, by have := hFl.out; simp; omega⟩
        have hdr : F.drop o = N := by rw [hPN, ← hPl]; simp
        have hDg2 : Dg 256 N := by have := hDg.out; rw [hdr] at this; exact this
        have hNz2 : Nz N := by have := hNz.out; rw [hdr] at this; exact this
        have hR2 : Cn R ∧ v58 R = Kp.hb 256 0 N := by have := hR.out; rw [hdr] at this; exact this
        have HDR := div_round hDg2 hNz2 (by omega) hR2.1 hR2.2
        have HQ := divF_ok N 0 0 (fun x hx => by have := hDg2 x hx; omega) (by omega) (by omega)
        have HDR' : Hid (∃ R', R = (divF 0 N).2 :: R' ∧ Cn R' ∧ v58 R' = Kp.hb 256 0 (divF 0 N).1) := HDR
        have HQ' : Hid (0 ≤ (divF 0 N).2 ∧ (divF 0 N).2 < 58 ∧ ∀ y ∈ (divF 0 N).1, 0 ≤ y ∧ y ≤ 255) := HQ.2
        have HDg2 : Hid (Dg 256 N) := hDg2
        have HPl : Hid (P.length = o) := hPl
        have HNl : Hid (N.length = m) := hNl
        have HRow : Hid (Own wr w.heap.size (.slice (some ⟨w.heap.size, 0, none⟩) k k) (P ++ ([] ++ N.drop 0))) := by rw [Hid, List.drop_zero, List.nil_append, ← hPN]; exact hrow
        have HRev : Hid (Own wr (w.heap.size + 1) u5 (D.map al)) := hrev
        clear hrow hrev hPN hdr hDg2 hNz2 hR2 HDR HQ hDg hNz hR hFl hao hPl hNl
        go_wp2_with fail
        go_loopw [6, 7] (fun rv x wr' => ∃ (i : Nat) (rem : Int) (A' : List Int), i ≤ m ∧ x = .int .i64 i ∧ rv = .int .i64 rem ∧ 0 ≤ rem ∧ rem < 58 ∧ Hid (A'.length = i) ∧ Own wr' w.heap.size (.slice (some ⟨w.heap.size, 0, none⟩) k k) (P ++ (A' ++ N.drop i)) ∧ Hid (A' ++ (divF rem (N.drop i)).1 = (divF 0 N).1 ∧ (divF rem (N.drop i)).2 = (divF 0 N).2) ∧ Own wr' (w.heap.size + 1) u5 (D.map al) ∧ Below w.heap.size w wr' ∧ w.heap.size + 1 ≤ wr'.heap.size) (fun _ x _ => m - (intOf x).toNat)
        case atStart => exact ⟨0, 0, [], Nat.zero_le _, rfl, rfl, by omega, by omega, rfl, HRow.out, by simp [Hid], HRev.out, hbel, hgs⟩
        case round =>
          clear HRow HRev hbel hgs
          obtain ⟨i, rem, A', hi', rfl, rfl, hr0, hr1, hA', hrow, hM, hrev, hbel, hgs⟩ := hrel
          by_cases him : i < m
          · have hNi : i < N.length := by rw [HNl.out]; exact him
            have hlen : (P ++ (A' ++ N.drop i)).length = k := by have h1 := HPl.out; have h2 := hA'.out; have h3 := HNl.out; simp; omega
            have hPA : (P ++ A').length = o + i := by have h1 := HPl.out; have h2 := hA'.out; simp; omega
            have hxb : 0 ≤ Bt N i ∧ Bt N i ≤ 255 := bt_range (fun y hy => by have := HDg2.out y hy; omega) i
            have gd := hrow.cell hlen (o + i) (by omega)
            have gf := hrow.free hlen (o + i)
            have hset := fun y hy => hrow.set hlen (o + i) y hy
            rw [bt_drop hNi, ← List.append_assoc, bt_mid hPA] at gd
            have hset' : ∀ y, 0 ≤ y ∧ y ≤ 255 → Own (wr.setCell ⟨w.heap.size, o + i, none⟩ (.int .u8 y)) w.heap.size (.slice (some ⟨w.heap.size, 0, none⟩) k k) (P ++ ((A' ++ [y]) ++ N.drop (i + 1))) := fun y hy => by
              have := hset y hy
              rw [bt_drop hNi, ← List.append_assoc, set_mid hPA] at this
              exact this.cast (by simp)
            have HSet : Hid (∀ y, 0 ≤ y ∧ y ≤ 255 → Own (wr.setCell ⟨w.heap.size, o + i, none⟩ (.int .u8 y)) w.heap.size (.slice (some ⟨w.heap.size, 0, none⟩) k k) (P ++ ((A' ++ [y]) ++ N.drop (i + 1)))) := hset'
            have hrev2 := fun y => hrev.set_below (a := ⟨w.heap.size, o + i, none⟩) (Nat.lt_succ_self _) (.int .u8 y)
            have HRev2 : Hid (∀ y, Own (wr.setCell ⟨w.heap.size, o + i, none⟩ (.int .u8 y)) (w.heap.size + 1) u5 (D.map al)) := hrev2
            have hM' : Hid ((A' ++ [(rem * 256 + Bt N i) / 58]) ++ (divF ((rem * 256 + Bt N i) % 58) (N.drop (i + 1))).1 = (divF 0 N).1 ∧ (divF ((rem * 256 + Bt N i) % 58) (N.drop (i + 1))).2 = (divF 0 N).2) := by
              have h := hM.out
              rw [bt_drop hNi, (divF_cons _ _ _).1, (divF_cons _ _ _).2] at h
              exact ⟨by rw [← h.1]; simp, h.2⟩
            have him' : (i : Int) < (m : Int) := by omega
            clear hset hset' hrev2 hrev hrow hM hlen hPA hNi
            generalize Bt N i = y at *
            go_wp2_with fail
            go_roundw
            case rel => exact ⟨i + 1, (rem * 256 + y) % 58, A' ++ [(rem * 256 + y) / 58], by omega, by go_num, by go_num, by omega, by omega, by have := hA'.out; show (A' ++ [_]).length = i + 1; simp; omega, HSet.out _ (by omega), hM', HRev2.out _, hbel.setCell (Nat.le_refl _) _, by simp; omega⟩
            case measure => simp [intOf]; omega
          · obtain rfl : i = m := by omega
            have hNd : N.drop i = [] := List.drop_eq_nil_of_le (by have := HNl.out; omega)
            have hM2 := hM.out
            rw [hNd] at hM2 hrow
            simp only [divF, List.append_nil] at hM2 hrow
            have HRem : Hid ((divF 0 N).2 = rem) := hM2.2.symm
            have HQA : Hid ((divF 0 N).1 = A') := hM2.1.symm
            have hrl := hrev.1.1
            have hDl : D.length ≤ 8192 := by have := pre_len hDR.out; omega
            have hral := al_byte hr0 hr1
            clear hM hM2 hNd
            have HRow : Hid (Own wr w.heap.size (.slice (some ⟨w.heap.size, 0, none⟩) k k) (P ++ A')) := hrow
            have HRevL : Hid (lenOf u5 = D.length) := by
              obtain ⟨a9, c9, hu9, _, _, _⟩ := hrev.shape
              rw [Hid, hu9]; simp [lenOf]
            clear hrow hrl
            go_wp2_with (first | (go_at_call 28; refine (char28 _ _ (by omega) (by omega)).mono ?_; rintro e w' ⟨rfl, rfl⟩) | (at_builtin; refine wpList_push _ rfl (.tmp 55) (.tmp 58) 22 rfl (w.heap.size + 1) i5 Trym.underlying22 hi hz0 hz1 hz2 _ (D.map al) rfl hrev (al rem) hral rfl (by simp; omega) (by omega) ?_; intro v' w' ho' hb'))
            have hbB := hb' (w.heap.size + 1) (Nat.le_refl _)
            have hrow2 := HRow.out.kept_at hbB (Nat.lt_succ_self _)
            have hbel2 : Below w.heap.size w w' := hbel.trans (hb' _ (Nat.le_succ _))
            have hgs2 : w.heap.size + 1 ≤ w'.heap.size := Nat.le_trans hgs hbB.size
            have HRow2 : Hid (Own w' w.heap.size (.slice (some ⟨w.heap.size, 0, none⟩) k k) (P ++ A')) := hrow2
            have HRv2 : Hid (Own w' (w.heap.size + 1) v' (D.map al ++ [al rem])) := ho'
            clear hrow2 ho' hb' hbB hbel hgs HRow hrev
            go_wp2_with fail
            go_loop [9] (fun x => ∃ kk : Nat, kk ≤ i ∧ x = .int .i64 kk ∧ Hid (∀ j, j < kk → Bt A' j = 0)) (fun x => i - (intOf x).toNat)
            case atStart => exact ⟨0, Nat.zero_le _, rfl, fun j hj => by omega⟩
            case round =>
              obtain ⟨kk, hkk, rfl, hz⟩ := hrel
              have HNext : Hid ((kk < i → Bt A' kk ≠ 0) → ∃ R', Hid (F2OK w' w.heap.size k o i kk P A' D R' E rem)) := fun hstop => by
                obtain ⟨R', hR', hcR, hvR⟩ := HDR'.out
                rw [HQA.out] at hvR
                rw [HRem.out] at hR'
                have hst := strip_drop hz.out (by have := hA'.out; omega) (fun h => hstop (by have := hA'.out; omega))
                refine ⟨R', ?_, ?_, ?_, ?_, ?_, ?_⟩
                · have h1 := HPl.out; have h2 := hA'.out; simp; omega
                · have e : (P ++ A').drop (o + kk) = A'.drop kk := by rw [← HPl.out, List.drop_append]; simp
                  rw [e, ← hst]; exact strip_dg (fun y hy => by have := HQ'.out.2.2 y (by rw [HQA.out]; exact hy); exact this)
                · have e : (P ++ A').drop (o + kk) = A'.drop kk := by rw [← HPl.out, List.drop_append]; simp
                  rw [e, ← hst]; exact strip_nz A'
                · exact hcR
                · have e : (P ++ A').drop (o + kk) = A'.drop kk := by rw [← HPl.out, List.drop_append]; simp
                  rw [e, ← hst, strip_hb]; exact hvR
                · rw [← hDR.out, hR']; simp
              have hMs : Hid (E.length - lenOf v' < E.length - lenOf u5) := by
                obtain ⟨a9, c9, hu9, _, _, _⟩ := HRv2.out.shape
                have h1 : lenOf v' = D.length + 1 := by rw [hu9]; simp [lenOf]
                have h2 : D.length < E.length := by
                  obtain ⟨R', hR', _, _⟩ := HDR'.out
                  rw [← hDR.out, hR']; simp
                rw [Hid, h1, HRevL.out]; omega
              by_cases hki : kk < i
              · have hlen : (P ++ A').length = k := by have h1 := HPl.out; have h2 := hA'.out; simp; omega
                have gd := HRow2.out.cell hlen (o + kk) (by omega)
                have hbt : Bt (P ++ A') (o + kk) = Bt A' kk := by
                  have h2 := hA'.out
                  have e := bt_drop (l := A') (i := kk) (by omega)
                  rw [← List.take_append_drop kk A', e, ← List.append_assoc, bt_mid (A := P ++ A'.take kk) (by have h1 := HPl.out; simp; omega)]
                  rw [← e, List.take_append_drop]
                rw [hbt] at gd
                have hki' : (kk : Int) < (i : Int) := by omega
                clear hlen hbt
                by_cases hzero : Bt A' kk = 0
                · have hz' : Hid (∀ j, j < kk + 1 → Bt A' j = 0) := fun j hj => by
                    by_cases e : j = kk
                    · subst e; exact hzero
                    · exact hz.out j (by omega)
                  have e1 : (Bt A' kk == 0) = true := by simpa using hzero
                  clear hz hzero HNext
                  go_wp2_with fail
                  go_round
                  case rel => exact ⟨kk + 1, by omega, by go_num, hz'⟩
                  case measure => simp [intOf]; omega
                · have e1 := ne_beq hzero
                  obtain ⟨R', hok⟩ := HNext.out (fun _ => hzero)
                  have hck : ¬ i = kk := by omega
                  clear hz HNext hzero
                  go_wp2_with fail
                  go_roundw
                  case rel => exact ⟨o + kk, i - kk, _, P ++ A', D ++ [rem], R', rfl, by omega, by omega, fun _ => rfl, HRow2.out, hok.out.1, hok.out.2.1, hok.out.2.2.1, ⟨hok.out.2.2.2.1, hok.out.2.2.2.2.1⟩, HRv2.out.cast (by simp), hok.out.2.2.2.2.2, hbel2, hgs2⟩
                  case measure => exact hMs.out
              · obtain rfl : kk = i := by omega
                have hkd : decide ((kk : Int) < (kk : Int)) = false := decide_eq_false (by omega)
                obtain ⟨R', hok⟩ := HNext.out (fun h => by omega)
                clear hz HNext
                go_wp2_with fail
                go_roundw
                case rel => exact ⟨o + kk, 0, _, P ++ A', D ++ [rem], R', rfl, by omega, by omega, fun h => by omega, HRow2.out, hok.out.1, hok.out.2.1, hok.out.2.2.1, ⟨hok.out.2.2.2.1, hok.out.2.2.2.2.1⟩, HRv2.out.cast (by simp), hok.out.2.2.2.2.2, hbel2, hgs2⟩
                case measure => exact hMs.out

end Go.Proofs.Qxb6601977aMods.Kp
