import Derived.Test.Qxb6600528aValid
namespace Go.Proofs.Qxb6600528a.leaves
open Go.RowKit
open plain (lv isS hsh plus wildL okL valid mtH matches_ dol)

set_option maxHeartbeats 1000000 in
set_option maxRecDepth 100000 in
theorem wildL_any (x : ByteArray) (w : World) : Calls Try.prog 33 #[.string x] w fun e w' => e = .returned (.bool (wildL x.data.toList)) ∧ w' = w := by
  have HW : Hid (wildL x.data.toList = (x.toList == [43] || x.toList == [35])) := by
    show wildL x.data.toList = _
    rw [Lib.toList_data]
    rfl
  obtain ⟨t1, ht1⟩ : ∃ t, (x.toList == [43]) = t := ⟨_, rfl⟩
  rw [ht1] at HW
  cases t1
  · go_enter Try.func33, Try.ntmps33
    go_wp2
    go_ret
    exact ⟨ret_bool HW.out.symm, rfl⟩
  · go_enter Try.func33, Try.ntmps33
    go_wp2
    go_ret
    exact ⟨ret_bool HW.out.symm, rfl⟩

theorem mtH_step (F N : List ByteArray) (k : Nat) (hk : k < F.length) (hn : k < N.length) (h : ((F.getD k ByteArray.empty).toList == [35]) = false) :
    mtH (dat (F.drop k)) (dat (N.drop k)) = if !((F.getD k ByteArray.empty).toList == [43]) && !((F.getD k ByteArray.empty).toList == (N.getD k ByteArray.empty).toList) then false else mtH (dat (F.drop (k + 1))) (dat (N.drop (k + 1))) := by
  rw [dat_drop F k hk, dat_drop N k hn, mtH]
  rw [Lib.toList_data] at h
  have h' : ((F.getD k ByteArray.empty).data.toList == hsh) = false := h
  rw [h', Lib.toList_data, Lib.toList_data]
  rfl
theorem mtH_hash (F N : List ByteArray) (k : Nat) (hk : k < F.length) (h : ((F.getD k ByteArray.empty).toList == [35]) = true) : mtH (dat (F.drop k)) (dat (N.drop k)) = true := by
  rw [Lib.toList_data] at h
  have h' : ((F.getD k ByteArray.empty).data.toList == hsh) = true := h
  rw [dat_drop F k hk]
  cases dat (N.drop k) <;> simp only [mtH, h', if_true]
theorem mtH_short (F N : List ByteArray) (k : Nat) (hk : k < F.length) (hn : ¬ k < N.length) (h : ((F.getD k ByteArray.empty).toList == [35]) = false) : mtH (dat (F.drop k)) (dat (N.drop k)) = false := by
  have e : N.drop k = [] := List.drop_eq_nil_of_le (by omega)
  rw [Lib.toList_data] at h
  have h' : ((F.getD k ByteArray.empty).data.toList == hsh) = false := h
  rw [dat_drop F k hk, e]
  simp only [dat, List.map_nil, mtH, h', Bool.false_eq_true, if_false]
theorem mtH_end (F N : List ByteArray) (hn : F.length ≤ N.length) : mtH (dat (F.drop F.length)) (dat (N.drop F.length)) = ((N.length : Int) == (F.length : Int)) := by
  rw [List.drop_length, dat, List.map_nil, mtH, Bool.eq_iff_iff, List.isEmpty_iff_length_eq_zero, beq_iff_eq]
  simp [dat]
  omega

set_option maxHeartbeats 4000000 in
set_option maxRecDepth 100000 in
theorem match_loop (vf vn : Value) (F N : List ByteArray) (w : World) (hF : Strs w vf F) (hN : Strs w vn N) (lF : F.length ≤ 2000000) (lN : N.length ≤ 2000000) (pF : 0 < F.length) (pN : 0 < N.length)
    (hd : (dol (dat N) && wildL ((dat F).headD [])) = false) :
    Calls Try.prog 32 #[vf, vn] w fun e w' => e = .returned (.bool (mtH (dat F) (dat N))) ∧ ∃ n, w' = w.drewN n := by
  obtain ⟨gf, cf, rfl, hgf, hcf⟩ := hF
  obtain ⟨gn, cn, rfl, hgn, hcn⟩ := hN
  obtain ⟨R, hR⟩ : ∃ R, mtH (dat F) (dat N) = R := ⟨_, rfl⟩
  rw [hR]
  have HR0 : Hid (mtH (dat F) (dat N) = R) := hR
  have HCF : Hid (∀ i, i < F.length → w.cell? ⟨gf, i, none⟩ = some (.string (F.getD i ByteArray.empty))) := hcf
  have HCN : Hid (∀ i, i < N.length → w.cell? ⟨gn, i, none⟩ = some (.string (N.getD i ByteArray.empty))) := hcn
  have f0 := hcf 0 pF
  have n0 := hcn 0 pN
  have HD : Hid (((N.getD 0 ByteArray.empty).data.toList.head? == some 36 && wildL (F.getD 0 ByteArray.empty).data.toList) = false) := by
    have e1 := dat_drop N 0 pN
    have e2 := dat_drop F 0 pF
    rw [List.drop_zero] at e1 e2
    rw [e1, e2] at hd
    exact hd
  clear hR hcf hcn hd
  obtain ⟨y, hy⟩ : ∃ y, N.getD 0 ByteArray.empty = y := ⟨_, rfl⟩
  obtain ⟨x, hx⟩ : ∃ x, F.getD 0 ByteArray.empty = x := ⟨_, rfl⟩
  rw [hy] at n0 HD
  rw [hx] at f0 HD
  clear hy hx
  have p1 : (0 : Int) < (F.length : Int) := by omega
  have p2 : (0 : Int) < (N.length : Int) := by omega
  go_enter Try.func32, Try.ntmps32
  go_upto_region 1 with fail
  go_cut [28] from 6 (fun t wc => t = .bool false ∧ w = wc)
  case first =>
    by_cases hys : 0 < y.size
    · have hys' : (0 : Int) < (y.size : Int) := by omega
      have hh : ((((y[0]'hys).toNat : Int)) == 36) = (y.data.toList.head? == some 36) := by
        rw [show ((36 : Int)) = ((36 : Nat) : Int) from rfl, u8_eq _ 36 (by omega)]
        have hl : 0 < y.data.toList.length := by rw [← Lib.size_eq]; exact hys
        rw [List.head?_eq_getElem?, List.getElem?_eq_getElem hl]
        rfl
      cases hb : (y.data.toList.head? == some 36)
      · rw [hb] at hh
        clear hb
        go_wp2_with fail
        go_meet
        exact ⟨rfl, rfl⟩
      · rw [hb] at hh HD
        clear hb
        have hw2 : wildL x.data.toList = false := HD.out
        go_wp2_with (go_at_call 33; refine (wildL_any _ _).mono ?_; rintro e w' ⟨rfl, hw⟩; rw [hw, hw2])
        go_meet
        exact ⟨rfl, rfl⟩
    · have hys' : ¬ (0 : Int) < (y.size : Int) := by omega
      go_wp2_with fail
      go_meet
      exact ⟨rfl, rfl⟩
  case rest =>
    obtain ⟨rfl, rfl⟩ := hcut
    clear f0 n0 HD
    go_wp2_with fail
    go_loopw [5] (fun i wr => ∃ k : Nat, k ≤ F.length ∧ k ≤ N.length ∧ i = .int .i64 k ∧ mtH (dat (F.drop k)) (dat (N.drop k)) = R ∧ ∃ n, wr = w.drewN n) (fun i _ => F.length - (intOf i).toNat)
    case atStart => exact ⟨0, by omega, by omega, rfl, by rw [List.drop_zero, List.drop_zero]; exact HR0.out, 0, rfl⟩
    case round =>
      obtain ⟨k, hk, hkn, rfl, hrk, n1, rfl⟩ := hrel
      have HK : Hid (mtH (dat (F.drop k)) (dat (N.drop k)) = R) := hrk
      clear hrk
      by_cases hlt : k < F.length
      · have hfc := HCF.out k hlt
        obtain ⟨t1, ht1⟩ : ∃ t, ((F.getD k ByteArray.empty).toList == [35]) = t := ⟨_, rfl⟩
        cases t1
        · by_cases hnlt : k < N.length
          · have hnc := HCN.out k hnlt
            have hst := mtH_step F N k hlt hnlt ht1
            have HST : Hid (R = if !((F.getD k ByteArray.empty).toList == [43]) && !((F.getD k ByteArray.empty).toList == (N.getD k ByteArray.empty).toList) then false else mtH (dat (F.drop (k + 1))) (dat (N.drop (k + 1)))) := by
              rw [← HK.out]
              exact hst
            clear hst
            generalize F.getD k ByteArray.empty = a at *
            generalize N.getD k ByteArray.empty = b at *
            obtain ⟨t2, ht2⟩ : ∃ t, (a.toList == [43]) = t := ⟨_, rfl⟩
            obtain ⟨t3, ht3⟩ : ∃ t, (a.toList == b.toList) = t := ⟨_, rfl⟩
            rw [ht2, ht3] at HST
            have hb2 : (a.toList != [43]) = !t2 := by rw [bne, ht2]
            have hb3 : (a.toList != b.toList) = !t3 := by rw [bne, ht3]
            have hnn : ¬ ((N.length : Int) ≤ (k : Int)) := by omega
            have hkk : ((k : Int)) < (N.length : Int) := by omega
            have hkf : ((k : Int)) < (F.length : Int) := by omega
            have HW : Hid (∀ q, ∃ n, (w.drewN n1).drewN q = w.drewN n) := fun q => ⟨_, World.drewN_drewN _ _ _⟩
            obtain ⟨wr, hwr⟩ : ∃ wr, wr = w.drewN n1 := ⟨_, rfl⟩
            rw [← hwr]
            rw [← hwr] at HW
            have hfc' : wr.cell? ⟨gf, k, none⟩ = some (.string a) := by rw [hwr]; exact hfc
            have hnc' : wr.cell? ⟨gn, k, none⟩ = some (.string b) := by rw [hwr]; exact hnc
            clear hwr hfc hnc
            cases t2
            · cases t3
              · go_wp2_with fail
                go_quiet (fail)
                go_wp2_with fail
                go_ret
                exact ⟨ret_bool HST.out.symm, HW.out _⟩
              · go_wp2_with fail
                go_quiet (fail)
                go_wp2_with fail
                exact ⟨⟨k + 1, by omega, by omega, by go_num, HST.out.symm, HW.out _⟩, by simp [intOf]; omega⟩
            · go_wp2_with fail
              go_quiet (fail)
              go_wp2_with fail
              exact ⟨⟨k + 1, by omega, by omega, by go_num, HST.out.symm, HW.out _⟩, by simp [intOf]; omega⟩
          · have HN : Hid (false = R) := by rw [← HK.out]; exact (mtH_short F N k hlt hnlt ht1).symm
            generalize F.getD k ByteArray.empty = a at *
            go_wp2_with fail
            go_ret
            exact ⟨ret_bool HN.out, _, rfl⟩
        · have HN : Hid (true = R) := by rw [← HK.out]; exact (mtH_hash F N k hlt ht1).symm
          generalize F.getD k ByteArray.empty = a at *
          go_wp2_with fail
          go_ret
          exact ⟨ret_bool HN.out, _, rfl⟩
      · obtain rfl : k = F.length := by omega
        have HN : Hid (((N.length : Int) == (F.length : Int)) = R) := by rw [← HK.out]; exact (mtH_end F N hkn).symm
        go_wp2_with fail
        go_ret
        exact ⟨ret_bool HN.out, _, rfl⟩
end Go.Proofs.Qxb6600528a.leaves
