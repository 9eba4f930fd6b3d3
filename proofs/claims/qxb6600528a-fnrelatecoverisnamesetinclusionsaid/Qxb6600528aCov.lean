import Derived.Test.Qxb6600528aRows2
namespace Go.Proofs.Qxb6600528a.leaves
open Go.RowKit
open plain (lv isS hsh plus wildL okL valid mtH matches_ dol bz baseOf hasH coversG fresh)

def Cof (bl : List (List UInt8)) (p e : Nat) (Z : List UInt8) : List (List UInt8) := bl.take p ++ List.replicate e Z
theorem Cof_length (bl : List (List UInt8)) (p e : Nat) (Z : List UInt8) (h : p ≤ bl.length) : (Cof bl p e Z).length = p + e := by
  simp [Cof]; omega
theorem Cof_lo (bl : List (List UInt8)) (p e : Nat) (Z : List UInt8) (k : Nat) (hk : k < p) (h : p ≤ bl.length) : (Cof bl p e Z).getD k [] = bl.getD k [] := by
  rw [List.getD_eq_getElem?_getD, List.getD_eq_getElem?_getD, Cof, List.getElem?_append_left (by simp; omega), List.getElem?_take, if_pos hk]
theorem Cof_hi (bl : List (List UInt8)) (p e : Nat) (Z : List UInt8) (k : Nat) (hp : p ≤ k) (hk : k < p + e) (h : p ≤ bl.length) : (Cof bl p e Z).getD k [] = Z := by
  rw [List.getD_eq_getElem?_getD, Cof, List.getElem?_append_right (by simp; omega), List.getElem?_replicate, if_pos (by simp; omega)]
  rfl

def QQ (fl bl : List (List UInt8)) (p : Nat) (Z : List UInt8) (e : Nat) : Bool := (p + e == 0) || matches_ fl (Cof bl p e Z)

theorem three_drop : ∀ e, e < 3 → ([0, 1, 2] : List Nat).drop e = e :: ([0, 1, 2] : List Nat).drop (e + 1)
  | 0, _ => rfl
  | 1, _ => rfl
  | 2, _ => rfl
  | _ + 3, h => by omega

theorem hasH_last (G : List ByteArray) (p : Nat) (hp : G.length = p + 1) : hasH (dat G) = ((G.getD p ByteArray.empty).toList == [35]) := by
  unfold hasH
  rw [List.getLast?_eq_getElem?]
  have e1 : (dat G).length = G.length := by simp [dat]
  rw [e1, hp, Nat.add_sub_cancel, Lib.toList_data]
  have : (dat G)[p]? = some (G.getD p ByteArray.empty).data.toList := by simp [dat, List.getD_eq_getElem?_getD, show p < G.length from by omega]
  rw [this]
  rw [Bool.eq_iff_iff, beq_iff_eq, beq_iff_eq]
  simp [hsh]

theorem base_get (G : List ByteArray) (Z : List UInt8) (m : Nat) (hm : m < G.length) : (baseOf Z (dat G)).getD m [] = if (G.getD m ByteArray.empty).toList == [43] then Z else (G.getD m ByteArray.empty).data.toList := by
  have : (dat G)[m]? = some (G.getD m ByteArray.empty).data.toList := by simp [dat, List.getD_eq_getElem?_getD, hm]
  rw [List.getD_eq_getElem?_getD, baseOf, List.getElem?_map, this, Lib.toList_data]
  rfl

set_option maxHeartbeats 8000000 in
set_option maxRecDepth 100000 in
theorem cov_any (f g : ByteArray) (w : World) (hf : f.size ≤ 65536) (hg : g.size ≤ 65536) :
    Calls Try.prog 13 #[.string f, .string g] w fun e w' => e = .returned (.bool (coversG (lv f.data.toList) (lv g.data.toList) (fresh f.data.toList))) ∧ Below w.heap.size w w' := by
  go_enter Try.func13, Try.ntmps13
  go_wp2_with fail
  refine (split_strs f _ (by omega)).mono ?_
  rintro e w1 ⟨vf, F, rfl, hdF, hsF, pF, lF, hb1⟩
  go_wp2_with fail
  refine (split_strs g _ (by omega)).mono ?_
  rintro e w2 ⟨vg, G, rfl, hdG, hsG, pG, lG, hb2⟩
  have hsF2 := hsF.below hb2
  obtain ⟨gf, cf, rfl, hgf, hcf⟩ := hsF2
  obtain ⟨gg, cg, rfl, hgg, hcg⟩ := hsG
  have HSF : Hid (Strs w2 (.slice (some ⟨gf, 0, none⟩) F.length cf) F) := ⟨gf, cf, rfl, hgf, hcf⟩
  have HSG : Hid (Strs w2 (.slice (some ⟨gg, 0, none⟩) G.length cg) G) := ⟨gg, cg, rfl, hgg, hcg⟩
  have HB2 : Hid (Below w.heap.size w w2) := below_two hb1 hb2
  obtain ⟨R, hR⟩ : ∃ R, coversG (lv f.data.toList) (lv g.data.toList) (fresh f.data.toList) = R := ⟨_, rfl⟩
  have HRR : Hid (coversG (lv f.data.toList) (lv g.data.toList) (fresh f.data.toList) = R) := hR
  have hZ : fresh f.data.toList = List.replicate (f.size + 1) 122 := by unfold fresh; rw [← Lib.size_eq]
  rw [← hdF, ← hdG, hZ] at hR
  obtain ⟨Z, hZ2⟩ : ∃ Z, List.replicate (f.size + 1) (122 : UInt8) = Z := ⟨_, rfl⟩
  rw [hZ2] at hR
  have HR : Hid (coversG (dat F) (dat G) Z = R) := hR
  have HFR : Hid (∀ w, Calls Try.prog 31 #[.int .i64 ((f.size : Int) + 1)] w fun e w' => e = .returned (.string (B Z)) ∧ Below w.heap.size w w') := by
    intro w
    have h := fresh_any (f.size + 1) w (by omega)
    rw [hZ2, show (((f.size + 1 : Nat)) : Int) = (f.size : Int) + 1 from by omega] at h
    exact h
  clear hsF hcf hcg hb1 hb2 hdF hdG hR hgf hgg hZ hZ2
  go_wp2_with fail
  refine (HFR.out _).mono ?_
  rintro e w3 ⟨rfl, hb3⟩
  have HSF3 : Hid (Strs w3 (.slice (some ⟨gf, 0, none⟩) F.length cf) F) := HSF.out.below hb3
  have HSG3 : Hid (Strs w3 (.slice (some ⟨gg, 0, none⟩) G.length cg) G) := HSG.out.below hb3
  have HB3 : Hid (Below w.heap.size w w3) := below_two HB2.out hb3
  clear hb3 HSF HSG HB2 HFR w1
  obtain ⟨w4, hmake, hrow, hb4, hlt4⟩ := madeS G.length w3 (by omega)
  have HRW : Hid (RowS w4 w3.heap.size (List.replicate G.length [])) := hrow
  have HB4 : Hid (Below w3.heap.size w3 w4) := hb4
  clear hrow hb4
  obtain ⟨zb, hzb⟩ : ∃ zb, B Z = zb := ⟨_, rfl⟩
  rw [hzb]
  have HZB : Hid (B Z = zb) := hzb
  clear hzb
  obtain ⟨bl, hbl⟩ : ∃ bl, baseOf Z (dat G) = bl := ⟨_, rfl⟩
  have HBLl : Hid (bl.length = G.length) := by rw [← hbl]; simp [Hid, baseOf, dat]
  have HBG : Hid (∀ m, m < G.length → bl.getD m [] = if (G.getD m ByteArray.empty).toList == [43] then Z else (G.getD m ByteArray.empty).data.toList) := by
    intro m hm
    rw [← hbl]
    exact base_get G Z m hm
  obtain ⟨p, hp⟩ : ∃ p, G.length = p + 1 := ⟨G.length - 1, by omega⟩
  have HRC : Hid ((if ((G.getD p ByteArray.empty).toList == [35]) then ([0, 1, 2] : List Nat).all (QQ (dat F) bl p Z) else matches_ (dat F) bl) = R) := by
    have h := HR.out
    unfold coversG at h
    have e1 : (dat G).length = G.length := by simp [dat]
    rw [hasH_last G p hp, hbl, e1, hp, Nat.add_sub_cancel] at h
    exact h
  have HP : Hid (G.length = p + 1) := hp
  clear hbl hp HR
  go_wp2_with fail
  go_loopw [9] (fun i wx => ∃ m : Nat, m ≤ G.length ∧ i = .int .i64 m ∧ RowS wx w3.heap.size (Pk bl m) ∧ Below w3.heap.size w3 wx) (fun i _ => G.length - (intOf i).toNat)
  case atStart => exact ⟨0, by omega, rfl, by rw [Pk_zero, HBLl.out]; exact HRW.out, HB4.out⟩
  case round =>
    obtain ⟨m, hm, rfl, hrow, hbx⟩ := hrel
    have HRX : Hid (RowS wr w3.heap.size (Pk bl m)) := hrow
    have HBX : Hid (Below w3.heap.size w3 wr) := hbx
    have hSG := HSG3.out.below hbx
    by_cases hmlt : m < G.length
    · have hmb : m < bl.length := by rw [HBLl.out]; exact hmlt
      obtain ⟨hcell, hfro⟩ := hrow m (by rw [Pk_length _ _ (by omega)]; exact hmb)
      obtain ⟨gg', cg', hvg, _, hcg⟩ := hSG
      injection hvg with hvg1 _ hvg2
      injection hvg1 with hvg1
      injection hvg1 with hvg1
      subst hvg1 hvg2
      have hcG := hcg m hmlt
      have hbg := HBG.out m hmlt
      have hlt' : (m : Int) < (G.length : Int) := by omega
      obtain ⟨y, hy⟩ : ∃ y, G.getD m ByteArray.empty = y := ⟨_, rfl⟩
      rw [hy] at hcG hbg
      clear hrow hbx hcg hy
      cases ht : (y.toList == [43])
      · rw [ht] at hbg
        have HFI : Hid (RowS (wr.setCell ⟨w3.heap.size, m, none⟩ (.string y)) w3.heap.size (Pk bl (m + 1))) := HRX.out.step hmb y (by rw [hbg]; exact (B_data y).symm)
        clear hbg
        go_wp2_with fail
        exact ⟨⟨m + 1, by omega, by go_num, HFI.out, HBX.out.setCell (Nat.le_refl _) _⟩, by simp [intOf]; omega⟩
      · rw [ht] at hbg
        have HFI : Hid (RowS (wr.setCell ⟨w3.heap.size, m, none⟩ (.string zb)) w3.heap.size (Pk bl (m + 1))) := HRX.out.step hmb zb (by rw [hbg]; exact HZB.out.symm)
        clear hbg
        go_wp2_with fail
        exact ⟨⟨m + 1, by omega, by go_num, HFI.out, HBX.out.setCell (Nat.le_refl _) _⟩, by simp [intOf]; omega⟩
    · obtain rfl : m = G.length := by omega
      have hpk : Pk bl G.length = bl := by
        have := Pk_all bl
        rw [HBLl.out] at this
        exact this
      rw [hpk] at hrow
      obtain ⟨w5, rfl⟩ : ∃ w5, w5 = wr := ⟨_, rfl⟩
      have HRB : Hid (RowS w5 w3.heap.size bl) := hrow
      have HSF5 : Hid (Strs w5 (.slice (some ⟨gf, 0, none⟩) F.length cf) F) := HSF3.out.below hbx
      have HB5 : Hid (Below w.heap.size w w5) := below_two HB3.out hbx
      have hpp := HP.out
      obtain ⟨gg', cg', hvg, _, hcg⟩ := hSG
      injection hvg with hvg1 _ hvg2
      injection hvg1 with hvg1
      injection hvg1 with hvg1
      subst hvg1 hvg2
      have hlast := hcg p (by omega)
      have hgb : w3.heap.size < w5.heap.size := World.block_lt_of_cell? w5 _ (hrow 0 (by rw [HBLl.out]; omega)).1
      obtain ⟨y, hy⟩ : ∃ y, G.getD p ByteArray.empty = y := ⟨_, rfl⟩
      rw [hy] at hlast
      rw [hy] at HRC
      clear hrow hpk HRX HBX hy hcg HBG HRW HB4 HSG3 HSF3
      have hidx : ((G.length : Int)) - 1 = (p : Int) := by omega
      have hpl : p < G.length := by omega
      have hpl2 : (p : Int) < (G.length : Int) := by omega
      clear hpp
      generalize w3.heap.size = gb at *
      cases ht : (y.toList == [35])
      · rw [ht] at HRC
        have hne : (y.toList != [35]) = true := by rw [bne, ht]; rfl
        have M1 : Hid (Calls Try.prog 32 #[.slice (some ⟨gf, 0, none⟩) F.length cf, .slice (some ⟨gb, 0, none⟩) G.length G.length] w5 fun e w'' => e = .returned (.bool R) ∧ Below w5.heap.size w5 w'') := by
          have hSN := HRB.out.strs (cap := G.length) (by rw [HBLl.out]; omega)
          rw [HBLl.out] at hSN
          have h := match_any _ _ F (bl.map B) w5 HSF5.out hSN (by omega) (by rw [List.length_map, HBLl.out]; omega) pF (by rw [List.length_map, HBLl.out]; omega)
          rw [dat_B] at h
          have hr := HRC.out
          simp only [Bool.false_eq_true, if_false] at hr
          rw [hr] at h
          exact h
        go_wp2_with fail
        refine M1.out.mono ?_
        rintro e w6 ⟨rfl, hb6⟩
        go_wp2_with fail
        go_ret
        exact ⟨ret_bool (by rw [HRR.out]), below_two HB5.out hb6⟩
      · rw [ht] at HRC
        have hne : (y.toList != [35]) = false := by rw [bne, ht]; rfl
        have HR3 : Hid (([0, 1, 2] : List Nat).all (QQ (dat F) bl p Z) = R) := HRC.out
        have hpb : p ≤ bl.length := by rw [HBLl.out]; omega
        clear HRC
        go_wp2_with fail
        clear hlast ht hne
        go_loopw [11] (fun x wr => ∃ e : Nat, e ≤ 3 ∧ x = .int .i64 e ∧ (([0, 1, 2] : List Nat).drop e).all (QQ (dat F) bl p Z) = R ∧ Below w5.heap.size w5 wr) (fun x _ => 3 - (intOf x).toNat)
        case atStart => exact ⟨0, by omega, rfl, by rw [List.drop_zero]; exact HR3.out, Below.refl _ _⟩
        case round =>
          obtain ⟨wo, rfl⟩ : ∃ wo, wo = wr := ⟨_, rfl⟩
          obtain ⟨e, he, rfl, hre, hbel⟩ := hrel
          have HK : Hid ((([0, 1, 2] : List Nat).drop e).all (QQ (dat F) bl p Z) = R) := hre
          have HW : Hid (Below w5.heap.size w5 wo) := hbel
          have hz5 : w5.heap.size ≤ wo.heap.size := hbel.size
          clear hre
          by_cases hlt : e < 3
          · have hst := HK.out
            rw [three_drop e hlt, List.all_cons] at hst
            have HST : Hid ((QQ (dat F) bl p Z e && (([0, 1, 2] : List Nat).drop (e + 1)).all (QQ (dat F) bl p Z)) = R) := hst
            have hle : (e : Int) ≤ 2 := by omega
            clear hst
            by_cases h0 : p + e = 0
            · have h0' : (((p : Int)) + (e : Int) == 0) = true := by rw [beq_iff_eq]; omega
              have HN : Hid ((([0, 1, 2] : List Nat).drop (e + 1)).all (QQ (dat F) bl p Z) = R) := by
                have h := HST.out
                have hq : QQ (dat F) bl p Z e = true := by unfold QQ; rw [h0]; rfl
                rw [hq] at h
                exact h
              clear h0 hbel
              go_wp2_with fail
              exact ⟨⟨e + 1, by omega, by go_num, HN.out, HW.out⟩, by simp [intOf]; omega⟩
            · have h0' : (((p : Int)) + (e : Int) == 0) = false := by rw [beq_eq_false_iff_ne]; omega
              obtain ⟨n, hn⟩ : ∃ n, p + e = n := ⟨_, rfl⟩
              have hnI : ((p : Int)) + (e : Int) = (n : Int) := by omega
              obtain ⟨w6, hmake, hrow, hb6, hlt6⟩ := madeS n wo (by omega)
              have HRW : Hid (RowS w6 wo.heap.size (List.replicate n [])) := hrow
              have HB6 : Hid (Below wo.heap.size wo w6) := hb6
              obtain ⟨C, hC⟩ : ∃ C, Cof bl p e Z = C := ⟨_, rfl⟩
              have HCl : Hid (C.length = n) := by
                show C.length = n
                rw [← hC, Cof_length bl p e Z hpb]
                exact hn
              have HLO : Hid (∀ k, k < p → C.getD k [] = bl.getD k []) := by
                intro k hk
                rw [← hC]
                exact Cof_lo bl p e Z k hk hpb
              have HHI : Hid (∀ k, p ≤ k → k < n → C.getD k [] = Z) := by
                intro k h1 h2
                rw [← hC]
                exact Cof_hi bl p e Z k h1 (by omega) hpb
              have HQ : Hid (QQ (dat F) bl p Z e = matches_ (dat F) C) := by
                show QQ (dat F) bl p Z e = _
                unfold QQ
                rw [hC, show (p + e == 0) = false from by rw [beq_eq_false_iff_ne]; exact h0]
                rfl
              have hpn : p ≤ n := by omega
              have hn0 : 0 < n := by omega
              have hpnI : (p : Int) ≤ (n : Int) := by omega
              have hnle : n ≤ 100000 := by omega
              have h0'' : ((n : Int) == 0) = false := by rw [beq_eq_false_iff_ne]; omega
              clear hrow hb6 hC hn h0 hbel h0'
              go_wp2_with fail
              go_loopw [13] (fun i wx => ∃ m : Nat, m ≤ p ∧ i = .int .i64 m ∧ RowS wx wo.heap.size (Pk C m) ∧ Below wo.heap.size wo wx) (fun i _ => p - (intOf i).toNat)
              case atStart => exact ⟨0, by omega, rfl, by rw [Pk_zero, HCl.out]; exact HRW.out, HB6.out⟩
              case round =>
                obtain ⟨m, hm, rfl, hrow, hbx⟩ := hrel
                have HRX : Hid (RowS wr wo.heap.size (Pk C m)) := hrow
                have HBX : Hid (Below wo.heap.size wo wr) := hbx
                by_cases hmlt : m < p
                · have hmC : m < C.length := by rw [HCl.out]; omega
                  obtain ⟨hcell, hfro⟩ := hrow m (by rw [Pk_length _ _ (by omega)]; exact hmC)
                  have hbase := ((HRB.out.below (below_two HW.out hbx)) m (by omega)).1
                  have HFI : Hid (RowS (wr.setCell ⟨wo.heap.size, m, none⟩ (.string (B (bl.getD m [])))) wo.heap.size (Pk C (m + 1))) := HRX.out.step hmC _ (by rw [HLO.out m hmlt])
                  have hmG : (m : Int) < (G.length : Int) := by omega
                  have hmn : (m : Int) < (n : Int) := by omega
                  have hmp : (m : Int) < (p : Int) := by omega
                  generalize B (bl.getD m []) = bv at *
                  clear hrow hbx
                  go_wp2_with fail
                  exact ⟨⟨m + 1, by omega, by go_num, HFI.out, HBX.out.setCell (Nat.le_refl _) _⟩, by simp [intOf]; omega⟩
                · obtain rfl : m = p := by omega
                  clear hrow hbx
                  go_wp2_with fail
                  go_loopw [14] (fun i wx => ∃ q : Nat, m ≤ q ∧ q ≤ n ∧ i = .int .i64 q ∧ RowS wx wo.heap.size (Pk C q) ∧ Below wo.heap.size wo wx) (fun i _ => n - (intOf i).toNat)
                  case atStart => exact ⟨m, by omega, by omega, rfl, HRX.out, HBX.out⟩
                  case round =>
                    obtain ⟨q, hmq, hqn, rfl, hrow, hbx⟩ := hrel
                    have HRY : Hid (RowS wr wo.heap.size (Pk C q)) := hrow
                    have HBY : Hid (Below wo.heap.size wo wr) := hbx
                    by_cases hqlt : q < n
                    · have hqC : q < C.length := by rw [HCl.out]; omega
                      obtain ⟨hcell, hfro⟩ := hrow q (by rw [Pk_length _ _ (by omega)]; exact hqC)
                      have HFI : Hid (RowS (wr.setCell ⟨wo.heap.size, q, none⟩ (.string zb)) wo.heap.size (Pk C (q + 1))) := HRY.out.step hqC _ (by rw [HHI.out q hmq hqlt]; exact HZB.out.symm)
                      have hqnI : (q : Int) < (n : Int) := by omega
                      clear hrow hbx
                      go_wp2_with fail
                      exact ⟨⟨q + 1, by omega, by omega, by go_num, HFI.out, HBY.out.setCell (Nat.le_refl _) _⟩, by simp [intOf]; omega⟩
                    · obtain rfl : q = n := by omega
                      have hpk : Pk C q = C := by
                        have := Pk_all C
                        rw [HCl.out] at this
                        exact this
                      rw [hpk] at hrow
                      have hSN := hrow.strs (cap := q) (by rw [HCl.out]; omega)
                      rw [HCl.out] at hSN
                      obtain ⟨b, hbq⟩ : ∃ b, matches_ (dat F) C = b := ⟨_, rfl⟩
                      have HWY : Hid (Below w5.heap.size w5 wr) := below_two HW.out hbx
                      have M1 : Hid (Calls Try.prog 32 #[.slice (some ⟨gf, 0, none⟩) F.length cf, .slice (some ⟨wo.heap.size, 0, none⟩) q q] wr fun e w'' => e = .returned (.bool b) ∧ Below wr.heap.size wr w'') := by
                        have h := match_any _ _ F (C.map B) wr (HSF5.out.below HWY.out) hSN (by omega) (by rw [List.length_map, HCl.out]; omega) pF (by rw [List.length_map, HCl.out]; omega)
                        rw [dat_B, hbq] at h
                        exact h
                      have HST2 : Hid ((b && (([0, 1, 2] : List Nat).drop (e + 1)).all (QQ (dat F) bl m Z)) = R) := by
                        have h := HST.out
                        rw [HQ.out, hbq] at h
                        exact h
                      clear hrow hbx hpk hSN hbq
                      go_wp2_with fail
                      refine M1.out.mono ?_
                      rintro e' w7 ⟨rfl, hb7⟩
                      have HB7 : Hid (Below w5.heap.size w5 w7) := below_two HWY.out hb7
                      clear hb7
                      cases b
                      · have HN : Hid (false = R) := HST2.out
                        go_wp2_with fail
                        go_ret
                        exact ⟨ret_bool (by rw [HRR.out]; exact HN.out), below_two HB5.out HB7.out⟩
                      · have HN : Hid ((([0, 1, 2] : List Nat).drop (e + 1)).all (QQ (dat F) bl m Z) = R) := HST2.out
                        go_wp2_with fail
                        exact ⟨⟨e + 1, by omega, by go_num, HN.out, HB7.out⟩, by simp [intOf]; omega⟩
          · obtain rfl : e = 3 := by omega
            have HN : Hid (true = R) := HK.out
            go_wp2_with fail
            go_ret
            exact ⟨ret_bool (by rw [HRR.out]; exact HN.out), below_two HB5.out HW.out⟩
end Go.Proofs.Qxb6600528a.leaves
