import Derived.Test.Qxb6600528aRows2
namespace Go.Proofs.Qxb6600528a.leaves
open Go.RowKit
open plain (lv isS hsh plus wildL okL valid mtH matches_ dol pick lit overlapG cn)

def candsOf (f g : Nat) : List Nat := [1, f - 1, f, g - 1, g]
def PP (fl gl : List (List UInt8)) (n : Nat) : Bool := decide (1 ≤ n) && (matches_ fl (cn n fl gl) && matches_ gl (cn n fl gl))

theorem cands_le (f g : Nat) : ∀ k, k < 5 → (candsOf f g).getD k 0 ≤ f + g + 1
  | 0, _ => by simp [candsOf]
  | 1, _ => by simp [candsOf]; omega
  | 2, _ => by simp [candsOf]; omega
  | 3, _ => by simp [candsOf]; omega
  | 4, _ => by simp [candsOf]; omega
  | _ + 5, h => by omega
theorem cands_drop (f g : Nat) : ∀ k, k < 5 → (candsOf f g).drop k = (candsOf f g).getD k 0 :: (candsOf f g).drop (k + 1)
  | 0, _ => rfl
  | 1, _ => rfl
  | 2, _ => rfl
  | 3, _ => rfl
  | 4, _ => rfl
  | _ + 5, h => by omega
theorem cands_cells (f g : Nat) (hf : 0 < f) (hg : 0 < g) : ∀ k, k < 5 → (#[Value.int .i64 1, .int .i64 ((f : Int) - 1), .int .i64 f, .int .i64 ((g : Int) - 1), .int .i64 g] : Array Value)[k]? = some (.int .i64 (((candsOf f g).getD k 0 : Nat) : Int))
  | 0, _ => rfl
  | 1, _ => by
    show some (Value.int .i64 ((f : Int) - 1)) = some (.int .i64 ((f - 1 : Nat) : Int))
    rw [show ((f - 1 : Nat) : Int) = (f : Int) - 1 from by omega]
  | 2, _ => rfl
  | 3, _ => by
    show some (Value.int .i64 ((g : Int) - 1)) = some (.int .i64 ((g - 1 : Nat) : Int))
    rw [show ((g - 1 : Nat) : Int) = (g : Int) - 1 from by omega]
  | 4, _ => rfl
  | _ + 5, h => by omega

theorem cn_getD (n : Nat) (F G : List ByteArray) (m : Nat) (hm : m < n) : (cn n (dat F) (dat G)).getD m [] = pick (dat F)[m]? (dat G)[m]? := by
  rw [List.getD_eq_getElem?_getD, plain.cn_get n _ _ m hm]
  rfl
theorem dat_get (F : List ByteArray) (m : Nat) (hm : m < F.length) : (dat F)[m]? = some (F.getD m ByteArray.empty).data.toList := by
  simp [dat, List.getD_eq_getElem?_getD, hm]
theorem dat_none (F : List ByteArray) (m : Nat) (hm : ¬ m < F.length) : (dat F)[m]? = none := by
  rw [List.getElem?_eq_none]
  simp [dat]
  omega
theorem lit_wild {x : List UInt8} (h : wildL x = true) : lit (some x) = none := by simp [lit, h]
theorem lit_no : lit none = none := rfl
theorem pick_l {x : List UInt8} (y : Option (List UInt8)) (h : wildL x = false) : pick (some x) y = x := plain.pick_lit y h
theorem pick_r {a : Option (List UInt8)} {y : List UInt8} (ha : lit a = none) (h : wildL y = false) : pick a (some y) = y := plain.pick_none ha h
theorem pick_z {a b : Option (List UInt8)} (ha : lit a = none) (hb : lit b = none) : pick a b = [122] := by
  unfold pick
  rw [ha, hb]
  rfl

set_option maxHeartbeats 8000000 in
set_option maxRecDepth 100000 in
theorem over_any (f g : ByteArray) (w : World) (hf : f.size ≤ 65536) (hg : g.size ≤ 65536) :
    Calls Try.prog 15 #[.string f, .string g] w fun e w' => e = .returned (.bool (overlapG (lv f.data.toList) (lv g.data.toList))) ∧ Below w.heap.size w w' := by
  go_enter Try.func15, Try.ntmps15
  go_wp2_with fail
  refine (split_strs f _ (by omega)).mono ?_
  rintro e w1 ⟨vf, F, rfl, hdF, hsF, pF, lF, hb1⟩
  go_wp2_with fail
  refine (split_strs g _ (by omega)).mono ?_
  rintro e w2 ⟨vg, G, rfl, hdG, hsG, pG, lG, hb2⟩
  have hsF2 := hsF.below hb2
  obtain ⟨gf, cf, rfl, hgf, hcf⟩ := hsF2
  obtain ⟨gg, cg, rfl, hgg, hcg⟩ := hsG
  have HSF : Hid (Strs w2 (.slice (some ⟨gf, 0, none⟩) F.length cf) F) := ⟨gf, cf, rfl, hgf, hcf⟩
  have HSG : Hid (Strs w2 (.slice (some ⟨gg, 0, none⟩) G.length cg) G) := ⟨gg, cg, rfl, hgg, hcg⟩
  have HB2 : Hid (Below w.heap.size w w2) := below_two hb1 hb2
  obtain ⟨R, hR⟩ : ∃ R, overlapG (lv f.data.toList) (lv g.data.toList) = R := ⟨_, rfl⟩
  have HR : Hid (((candsOf F.length G.length).any (PP (dat F) (dat G))) = R) := by
    show _ = R
    rw [← hR, ← hdF, ← hdG]
    simp only [overlapG, candsOf]
    have e1 : (dat F).length = F.length := by simp [dat]
    have e2 : (dat G).length = G.length := by simp [dat]
    rw [e1, e2]
    rfl
  have HRR : Hid (overlapG (lv f.data.toList) (lv g.data.toList) = R) := hR
  clear hsF hcf hcg hb1 hb2 hdF hdG hR hgf hgg
  go_wp2_with fail
  obtain ⟨w3, hw3⟩ : ∃ w3, w2.alloc (.cells #[.int .i64 1, .int .i64 ((F.length : Int) - 1), .int .i64 F.length, .int .i64 ((G.length : Int) - 1), .int .i64 G.length] 45) = w3 := ⟨_, rfl⟩
  have HCA : Hid (∀ k, k < 5 → w3.cell? ⟨w2.heap.size, k, none⟩ = some (.int .i64 (((candsOf F.length G.length).getD k 0 : Nat) : Int))) := by
    intro k hk
    rw [← hw3, ← cands_cells F.length G.length pF pG k hk]
    exact World.cell?_alloc_mark w2 _ 45 (0, 0) k
  have hb3 : Below w2.heap.size w2 w3 := by
    rw [← hw3]
    exact (Below.refl _ _).alloc (Nat.le_refl _) _
  have hlt3 : w2.heap.size < w3.heap.size := by rw [← hw3]; simp
  have HSF3 : Hid (Strs w3 (.slice (some ⟨gf, 0, none⟩) F.length cf) F) := HSF.out.below hb3
  have HSG3 : Hid (Strs w3 (.slice (some ⟨gg, 0, none⟩) G.length cg) G) := HSG.out.below hb3
  have HB3 : Hid (Below w.heap.size w w3) := below_two HB2.out hb3
  rw [hw3]
  clear hw3 hb3 HSF HSG HB2
  generalize w2.heap.size = gc at *
  clear w2 w1
  go_loopw [8] (fun c wr => ∃ k : Nat, k ≤ 5 ∧ c = .int .i64 k ∧ ((candsOf F.length G.length).drop k).any (PP (dat F) (dat G)) = R ∧ Below w3.heap.size w3 wr) (fun c _ => 5 - (intOf c).toNat)
  case atStart => exact ⟨0, by omega, rfl, by rw [List.drop_zero]; exact HR.out, Below.refl _ _⟩
  case round =>
    obtain ⟨wo, rfl⟩ : ∃ wo, wo = wr := ⟨_, rfl⟩
    obtain ⟨k, hk, rfl, hrk, hbel⟩ := hrel
    have HK : Hid (((candsOf F.length G.length).drop k).any (PP (dat F) (dat G)) = R) := hrk
    have HW : Hid (Below w3.heap.size w3 wo) := hbel
    clear hrk
    by_cases hlt : k < 5
    · have hca : wo.cell? ⟨gc, k, none⟩ = some (.int .i64 (((candsOf F.length G.length).getD k 0 : Nat) : Int)) := (hbel.cell (p := ⟨gc, k, none⟩) hlt3).trans (HCA.out k hlt)
      have hle := cands_le F.length G.length k hlt
      have hst := HK.out
      rw [cands_drop _ _ k hlt, List.any_cons] at hst
      obtain ⟨n, hn⟩ : ∃ n, (candsOf F.length G.length).getD k 0 = n := ⟨_, rfl⟩
      rw [hn] at hca hle hst
      have HST : Hid ((PP (dat F) (dat G) n || ((candsOf F.length G.length).drop (k + 1)).any (PP (dat F) (dat G))) = R) := hst
      clear hst hn hbel
      by_cases hn1 : 1 ≤ n
      · obtain ⟨w4, hmake, hrow, hb4, hlt4⟩ := madeS n wo (by omega)
        have HRW : Hid (RowS w4 wo.heap.size (List.replicate n [])) := hrow
        have HB4 : Hid (Below wo.heap.size wo w4) := hb4
        have hn1' : ¬ ((n : Int) < 1) := by omega
        clear hrow hb4
        go_wp2_with fail
        obtain ⟨C, hC⟩ : ∃ C, cn n (dat F) (dat G) = C := ⟨_, rfl⟩
        have hCl : C.length = n := by rw [← hC]; exact plain.cn_length n _ _
        have HCl : Hid (C.length = n) := hCl
        have HCC : Hid (cn n (dat F) (dat G) = C) := hC
        clear hC hCl
        go_loopw [11] (fun i wx => ∃ m : Nat, m ≤ n ∧ i = .int .i64 m ∧ RowS wx wo.heap.size (Pk C m) ∧ Below wo.heap.size wo wx) (fun i _ => n - (intOf i).toNat)
        case atStart => exact ⟨0, by omega, rfl, by rw [Pk_zero, HCl.out]; exact HRW.out, HB4.out⟩
        case round =>
          obtain ⟨m, hm, rfl, hrow, hbx⟩ := hrel
          have HRX : Hid (RowS wr wo.heap.size (Pk C m)) := hrow
          have HBX : Hid (Below wo.heap.size wo wr) := hbx
          have hwoz : wo.heap.size ≤ wr.heap.size := hbx.size
          have hW3 : Below w3.heap.size w3 wr := below_two HW.out hbx
          have hSF := HSF3.out.below hW3
          have hSG := HSG3.out.below hW3
          have HSFX : Hid (Strs wr (.slice (some ⟨gf, 0, none⟩) F.length cf) F) := hSF
          have HSGX : Hid (Strs wr (.slice (some ⟨gg, 0, none⟩) G.length cg) G) := hSG
          have HWX : Hid (Below w3.heap.size w3 wr) := hW3
          by_cases hmlt : m < n
          · have hmC : m < C.length := by rw [HCl.out]; exact hmlt
            obtain ⟨hcell, hfro⟩ := hrow m (by rw [Pk_length _ _ (by omega)]; exact hmC)
            have hval : Hid (∀ v : ByteArray, pick (dat F)[m]? (dat G)[m]? = v.data.toList → RowS (wr.setCell ⟨wo.heap.size, m, none⟩ (.string v)) wo.heap.size (Pk C (m + 1))) := by
              intro v hv
              refine HRX.out.step hmC v ?_
              rw [← HCC.out, cn_getD n F G m hmlt, hv, B_data]
            obtain ⟨gf', cf', hvf, _, hcf⟩ := hSF
            obtain ⟨gg', cg', hvg, _, hcg⟩ := hSG
            injection hvf with hvf1 _ hvf2
            injection hvg with hvg1 _ hvg2
            injection hvf1 with hvf1
            injection hvg1 with hvg1
            injection hvf1 with hvf1
            injection hvg1 with hvg1
            subst hvf1 hvf2 hvg1 hvg2
            clear hrow hbx hW3
            by_cases hmF : m < F.length
            · have hmF' : (m : Int) < (F.length : Int) := by omega
              have hcF := hcf m hmF
              have gF := dat_get F m hmF
              obtain ⟨x, hx⟩ : ∃ x, F.getD m ByteArray.empty = x := ⟨_, rfl⟩
              rw [hx] at hcF gF
              clear hx hcf
              rw [gF] at hval
              clear gF
              cases hwx : wildL x.data.toList
              · have HFIN := hval.out x (pick_l _ hwx)
                have HFI : Hid (RowS (wr.setCell ⟨wo.heap.size, m, none⟩ (.string x)) wo.heap.size (Pk C (m + 1))) := HFIN
                clear HFIN hcg
                go_wp2_with (go_at_call 33; refine (wildL_any _ _).mono ?_; rintro e w' ⟨rfl, hw⟩; rw [hw, hwx])
                exact ⟨⟨m + 1, by omega, by go_num, HFI.out, HBX.out.setCell (Nat.le_refl _) _⟩, by simp [intOf]; omega⟩
              · by_cases hmG : m < G.length
                · have hmG' : (m : Int) < (G.length : Int) := by omega
                  have hcG := hcg m hmG
                  have gG := dat_get G m hmG
                  obtain ⟨y, hy⟩ : ∃ y, G.getD m ByteArray.empty = y := ⟨_, rfl⟩
                  rw [hy] at hcG gG
                  clear hy hcg
                  rw [gG] at hval
                  clear gG
                  cases hwy : wildL y.data.toList
                  · have HFI : Hid (RowS (wr.setCell ⟨wo.heap.size, m, none⟩ (.string y)) wo.heap.size (Pk C (m + 1))) := hval.out y (pick_r (lit_wild hwx) hwy)
                    go_wp2_with fail
                    refine (wildL_any _ _).mono ?_
                    rintro e w' ⟨rfl, hw⟩
                    rw [hw, hwx]
                    go_wp2_with fail
                    refine (wildL_any _ _).mono ?_
                    rintro e w' ⟨rfl, hw⟩
                    rw [hw, hwy]
                    go_wp2_with fail
                    exact ⟨⟨m + 1, by omega, by go_num, HFI.out, HBX.out.setCell (Nat.le_refl _) _⟩, by simp [intOf]; omega⟩
                  · have HFI : Hid (RowS (wr.setCell ⟨wo.heap.size, m, none⟩ (.string ⟨#[122]⟩)) wo.heap.size (Pk C (m + 1))) := hval.out ⟨#[122]⟩ (pick_z (lit_wild hwx) (lit_wild hwy))
                    go_wp2_with fail
                    refine (wildL_any _ _).mono ?_
                    rintro e w' ⟨rfl, hw⟩
                    rw [hw, hwx]
                    go_wp2_with fail
                    refine (wildL_any _ _).mono ?_
                    rintro e w' ⟨rfl, hw⟩
                    rw [hw, hwy]
                    go_wp2_with fail
                    exact ⟨⟨m + 1, by omega, by go_num, HFI.out, HBX.out.setCell (Nat.le_refl _) _⟩, by simp [intOf]; omega⟩
                · have hmG' : ¬ (m : Int) < (G.length : Int) := by omega
                  have HFI : Hid (RowS (wr.setCell ⟨wo.heap.size, m, none⟩ (.string ⟨#[122]⟩)) wo.heap.size (Pk C (m + 1))) := hval.out ⟨#[122]⟩ (pick_z (lit_wild hwx) (by rw [dat_none G m hmG]; rfl))
                  clear hcg
                  go_wp2_with (go_at_call 33; refine (wildL_any _ _).mono ?_; rintro e w' ⟨rfl, hw⟩; rw [hw, hwx])
                  exact ⟨⟨m + 1, by omega, by go_num, HFI.out, HBX.out.setCell (Nat.le_refl _) _⟩, by simp [intOf]; omega⟩
            · have hmF' : ¬ (m : Int) < (F.length : Int) := by omega
              rw [dat_none F m hmF] at hval
              clear hcf
              by_cases hmG : m < G.length
              · have hmG' : (m : Int) < (G.length : Int) := by omega
                have hcG := hcg m hmG
                have gG := dat_get G m hmG
                obtain ⟨y, hy⟩ : ∃ y, G.getD m ByteArray.empty = y := ⟨_, rfl⟩
                rw [hy] at hcG gG
                clear hy hcg
                rw [gG] at hval
                clear gG
                cases hwy : wildL y.data.toList
                · have HFI : Hid (RowS (wr.setCell ⟨wo.heap.size, m, none⟩ (.string y)) wo.heap.size (Pk C (m + 1))) := hval.out y (pick_r lit_no hwy)
                  go_wp2_with (go_at_call 33; refine (wildL_any _ _).mono ?_; rintro e w' ⟨rfl, hw⟩; rw [hw, hwy])
                  exact ⟨⟨m + 1, by omega, by go_num, HFI.out, HBX.out.setCell (Nat.le_refl _) _⟩, by simp [intOf]; omega⟩
                · have HFI : Hid (RowS (wr.setCell ⟨wo.heap.size, m, none⟩ (.string ⟨#[122]⟩)) wo.heap.size (Pk C (m + 1))) := hval.out ⟨#[122]⟩ (pick_z lit_no (lit_wild hwy))
                  go_wp2_with (go_at_call 33; refine (wildL_any _ _).mono ?_; rintro e w' ⟨rfl, hw⟩; rw [hw, hwy])
                  exact ⟨⟨m + 1, by omega, by go_num, HFI.out, HBX.out.setCell (Nat.le_refl _) _⟩, by simp [intOf]; omega⟩
              · have hmG' : ¬ (m : Int) < (G.length : Int) := by omega
                have HFI : Hid (RowS (wr.setCell ⟨wo.heap.size, m, none⟩ (.string ⟨#[122]⟩)) wo.heap.size (Pk C (m + 1))) := hval.out ⟨#[122]⟩ (pick_z lit_no (by rw [dat_none G m hmG]; rfl))
                clear hcg
                go_wp2_with fail
                exact ⟨⟨m + 1, by omega, by go_num, HFI.out, HBX.out.setCell (Nat.le_refl _) _⟩, by simp [intOf]; omega⟩
          · obtain rfl : m = n := by omega
            have hpk : Pk C m = C := by
              have := Pk_all C
              rw [HCl.out] at this
              exact this
            rw [hpk] at hrow
            have hSN := hrow.strs (cap := m) (by rw [HCl.out]; omega)
            rw [HCl.out] at hSN
            have HSN : Hid (Strs wr (.slice (some ⟨wo.heap.size, 0, none⟩) m m) (C.map B)) := hSN
            obtain ⟨q1, hq1⟩ : ∃ q, matches_ (dat F) C = q := ⟨_, rfl⟩
            obtain ⟨q2, hq2⟩ : ∃ q, matches_ (dat G) C = q := ⟨_, rfl⟩
            have HP : Hid (PP (dat F) (dat G) m = (q1 && q2)) := by
              show PP (dat F) (dat G) m = _
              unfold PP
              rw [HCC.out, hq1, hq2, decide_eq_true hn1]
              rfl
            have M1 : Hid (∀ w', Below wr.heap.size wr w' → Calls Try.prog 32 #[.slice (some ⟨gf, 0, none⟩) F.length cf, .slice (some ⟨wo.heap.size, 0, none⟩) m m] w' fun e w'' => e = .returned (.bool q1) ∧ Below w'.heap.size w' w'') := by
              intro w' hb
              have h := match_any _ _ F (C.map B) w' (HSFX.out.below hb) (HSN.out.below hb) (by omega) (by rw [List.length_map, HCl.out]; omega) pF (by rw [List.length_map, HCl.out]; omega)
              rw [dat_B, hq1] at h
              exact h
            have M2 : Hid (∀ w', Below wr.heap.size wr w' → Calls Try.prog 32 #[.slice (some ⟨gg, 0, none⟩) G.length cg, .slice (some ⟨wo.heap.size, 0, none⟩) m m] w' fun e w'' => e = .returned (.bool q2) ∧ Below w'.heap.size w' w'') := by
              intro w' hb
              have h := match_any _ _ G (C.map B) w' (HSGX.out.below hb) (HSN.out.below hb) (by omega) (by rw [List.length_map, HCl.out]; omega) pG (by rw [List.length_map, HCl.out]; omega)
              rw [dat_B, hq2] at h
              exact h
            clear hrow hpk hSN hq1 hq2 hSF hSG hW3 hbx
            go_wp2_with fail
            refine (M1.out _ (Below.refl _ _)).mono ?_
            rintro e w5 ⟨rfl, hb5⟩
            have HB5 : Hid (Below wr.heap.size wr w5) := hb5
            clear hb5
            cases q1
            · have HN : Hid (((candsOf F.length G.length).drop (k + 1)).any (PP (dat F) (dat G)) = R) := by
                have h := HST.out
                rw [HP.out] at h
                exact h
              go_wp2_with fail
              exact ⟨⟨k + 1, by omega, by go_num, HN.out, below_two HWX.out HB5.out⟩, by simp [intOf]; omega⟩
            · go_wp2_with fail
              refine (M2.out _ HB5.out).mono ?_
              rintro e w6 ⟨rfl, hb6⟩
              have HB6 : Hid (Below wr.heap.size wr w6) := below_two HB5.out hb6
              clear hb6
              cases q2
              · have HN : Hid (((candsOf F.length G.length).drop (k + 1)).any (PP (dat F) (dat G)) = R) := by
                  have h := HST.out
                  rw [HP.out] at h
                  exact h
                go_wp2_with fail
                exact ⟨⟨k + 1, by omega, by go_num, HN.out, below_two HWX.out HB6.out⟩, by simp [intOf]; omega⟩
              · have HN : Hid (true = R) := by
                  have h := HST.out
                  rw [HP.out] at h
                  exact h
                go_wp2_with fail
                go_ret
                exact ⟨ret_bool (by rw [HRR.out]; exact HN.out), below_two HB3.out (below_two HWX.out HB6.out)⟩
      · have hn1' : (n : Int) < 1 := by omega
        have HN : Hid (((candsOf F.length G.length).drop (k + 1)).any (PP (dat F) (dat G)) = R) := by
          have h := HST.out
          have hp : PP (dat F) (dat G) n = false := by simp [PP, hn1]
          rw [hp] at h
          exact h
        go_wp2_with fail
        exact ⟨⟨k + 1, by omega, by go_num, HN.out, HW.out⟩, by simp [intOf]; omega⟩
    · obtain rfl : k = 5 := by omega
      have HN : Hid (false = R) := HK.out
      go_wp2_with fail
      go_ret
      exact ⟨ret_bool (by rw [HRR.out]; exact HN.out), below_two HB3.out HW.out⟩
end Go.Proofs.Qxb6600528a.leaves
