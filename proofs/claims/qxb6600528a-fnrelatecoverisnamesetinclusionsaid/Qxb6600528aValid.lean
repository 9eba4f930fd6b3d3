import Derived.Test.Qxb6600528aSplit
namespace Go.Proofs.Qxb6600528a.leaves
open Go.RowKit
open plain (lv isS hsh plus wildL okL valid mtH matches_ dol)

def okB (l : List UInt8) (last : Bool) (b : UInt8) : Bool := !(b == 35 && (!(l == [35]) || !last)) && !(b == 43 && !(l == [43]))

theorem okL_all (l : List UInt8) (last : Bool) : okL l last = l.all (okB l last) := by
  have h1 : ∀ (c : UInt8) (m : List UInt8), m.contains c = m.any (· == c) := by
    intro c m
    induction m with
    | nil => rfl
    | cons b m ih =>
      rw [List.contains_cons, List.any_cons, ih]
      congr 1
      rw [Bool.eq_iff_iff, beq_iff_eq, beq_iff_eq]
      exact eq_comm
  unfold okL
  have key : ∀ (p q : Bool) (m : List UInt8), ((!m.contains 35 || p) && (!m.contains 43 || q)) = m.all fun b => !(b == 35 && !p) && !(b == 43 && !q) := by
    intro p q m
    induction m with
    | nil => simp
    | cons b m ih =>
      rw [List.all_cons, ← ih, h1, h1, List.any_cons, List.any_cons, ← h1, ← h1]
      cases b == 35 <;> cases b == 43 <;> cases m.contains 35 <;> cases m.contains 43 <;> cases p <;> cases q <;> rfl
  rw [key]
  congr 1
  funext b
  unfold okB
  simp only [hsh, plus, Bool.not_and]

theorem dat_drop (L : List ByteArray) (k : Nat) (hk : k < L.length) : dat (L.drop k) = (L.getD k ByteArray.empty).data.toList :: dat (L.drop (k + 1)) := by
  rw [List.drop_eq_getElem_cons hk]
  show (L[k].data.toList :: dat (L.drop (k + 1))) = _
  simp [List.getD_eq_getElem?_getD, hk]

theorem dat_size {L : List ByteArray} {l : List UInt8} (h : dat L = lv l) (k : Nat) (hk : k < L.length) : (L.getD k ByteArray.empty).size ≤ l.length := by
  have hm : (L.getD k ByteArray.empty).data.toList ∈ dat L := by
    rw [List.getD_eq_getElem?_getD, List.getElem?_eq_getElem hk, Option.getD_some]
    exact List.mem_map.2 ⟨_, List.getElem_mem hk, rfl⟩
  rw [h] at hm
  rw [Lib.size_eq]
  exact plain.lv_len l _ hm

theorem dat_empty (L : List ByteArray) (k : Nat) (hk : k < L.length) : (dat (L.drop (k + 1))).isEmpty = (((k : Int)) == (L.length : Int) - 1) := by
  rw [Bool.eq_iff_iff, List.isEmpty_iff_length_eq_zero, beq_iff_eq]
  simp [dat]
  omega

theorem drop_all (l : List UInt8) (p : UInt8 → Bool) (m : Nat) (hm : m < l.length) : (l.drop m).all p = (p l[m] && (l.drop (m + 1)).all p) := by
  rw [List.drop_eq_getElem_cons hm, List.all_cons]

set_option maxHeartbeats 4000000 in
set_option maxRecDepth 100000 in
theorem valid_any (s : ByteArray) (w : World) (hs : s.size ≤ 1048576) :
    Calls Try.prog 11 #[.string s] w fun e w' => e = .returned (.bool (valid (lv s.data.toList))) ∧ Below w.heap.size w w' := by
  obtain ⟨R, hR⟩ : ∃ R, valid (lv s.data.toList) = R := ⟨_, rfl⟩
  rw [hR]
  have HR0 : Hid (valid (lv s.data.toList) = R) := hR
  clear hR
  go_enter Try.func11, Try.ntmps11
  go_wp2_with fail
  refine (split_strs s _ hs).mono ?_
  rintro e w1 ⟨v, L, rfl, hdat, ⟨g, cap, hv, hg, hc⟩, hpos, hlim, hbel⟩
  subst hv
  have HB : Hid (Below w.heap.size w w1) := hbel
  have HC : Hid (∀ i, i < L.length → w1.cell? ⟨g, i, none⟩ = some (.string (L.getD i ByteArray.empty))) := hc
  have HR : Hid (valid (dat L) = R) := by rw [hdat]; exact HR0.out
  have HSZ : Hid (∀ k, k < L.length → (L.getD k ByteArray.empty).size ≤ 1048576) := fun k hk => by
    have h := dat_size hdat k hk
    rw [← Lib.size_eq] at h
    omega
  clear hbel hc HR0 hdat
  go_wp2_with fail
  go_loop [4] (fun i => ∃ k : Nat, k ≤ L.length ∧ i = .int .i64 k ∧ valid (dat (L.drop k)) = R) (fun i => L.length - (intOf i).toNat)
  case atStart => exact ⟨0, by omega, rfl, by rw [List.drop_zero]; exact HR.out⟩
  case round =>
    obtain ⟨k, hk, rfl, hrk⟩ := hrel
    have HK : Hid (valid (dat (L.drop k)) = R) := hrk
    clear hrk
    by_cases hlt : k < L.length
    · have hcell := HC.out k hlt
      have hd := HK.out
      rw [dat_drop L k hlt, valid, okL_all, dat_empty L k hlt] at hd
      obtain ⟨x, hx⟩ : ∃ x, L.getD k ByteArray.empty = x := ⟨_, rfl⟩
      rw [hx] at hcell hd
      obtain ⟨lb, hlb⟩ : ∃ b, (((k : Int)) == (L.length : Int) - 1) = b := ⟨_, rfl⟩
      rw [hlb] at hd
      have hlb' : (((k : Int)) != (L.length : Int) - 1) = !lb := by rw [bne, hlb]
      have hlen : x.data.toList.length = x.size := (Lib.size_eq x).symm
      have hat := byte_at x
      obtain ⟨xl, hxl⟩ : ∃ l, x.data.toList = l := ⟨_, rfl⟩
      rw [hxl] at hlen hd
      simp only [hxl] at hat
      have HA : Hid (∀ (k : Nat) (h : k < x.size) (h' : k < xl.length), xl[k] = x[k]'h) := hat
      have HL : Hid (xl.length = x.size) := hlen
      obtain ⟨V, hV⟩ : ∃ b, valid (dat (L.drop (k + 1))) = b := ⟨_, rfl⟩
      rw [hV] at hd
      have HV : Hid (valid (dat (L.drop (k + 1))) = V) := hV
      have HD : Hid ((xl.all (okB xl lb) && V) = R) := hd
      obtain ⟨t1, ht1⟩ : ∃ t, (x.toList == [35]) = t := ⟨_, rfl⟩
      obtain ⟨t2, ht2⟩ : ∃ t, (x.toList == [43]) = t := ⟨_, rfl⟩
      have HO : Hid (∀ b, okB xl lb b = (!(b == 35 && (!t1 || !lb)) && !(b == 43 && !t2))) := by
        intro b
        unfold okB
        rw [← hxl, ← Lib.toList_data, ht1, ht2]
      have hxs : x.size ≤ 1048576 := by rw [← hx]; exact HSZ.out k hlt
      clear hlen hat hd hV hx hxl hlb HK
      go_wp2_with fail
      go_loop [6] (fun j => ∃ m : Nat, m ≤ x.size ∧ j = .int .i64 m ∧ ((xl.drop m).all (okB xl lb) && V) = R) (fun j => x.size - (intOf j).toNat)
      case atStart => exact ⟨0, by omega, rfl, by rw [List.drop_zero]; exact HD.out⟩
      case round =>
        obtain ⟨m, hm, rfl, hrm⟩ := hrel
        by_cases hmlt : m < x.size
        · have hml : m < xl.length := by rw [HL.out]; exact hmlt
          have hb := HA.out m hmlt hml
          have hst := drop_all xl (okB xl lb) m hml
          rw [HO.out] at hst
          have e1 : ((((x[m]'hmlt).toNat : Int)) == 35) = (xl[m] == 35) := by rw [show ((35 : Int)) = ((35 : Nat) : Int) from rfl, u8_eq _ 35 (by omega), hb]; rfl
          have e2 : ((((x[m]'hmlt).toNat : Int)) == 43) = (xl[m] == 43) := by rw [show ((43 : Int)) = ((43 : Nat) : Int) from rfl, u8_eq _ 43 (by omega), hb]; rfl
          have e12 : (xl[m] == 35) = true → (xl[m] == 43) = false := by
            intro h
            have : xl[m] = 35 := by simpa using h
            rw [this]
            rfl
          have HS : Hid ((xl.drop m).all (okB xl lb) = (!(xl[m] == 35 && (!t1 || !lb)) && !(xl[m] == 43 && !t2) && (xl.drop (m + 1)).all (okB xl lb))) := hst
          have HM : Hid (((xl.drop m).all (okB xl lb) && V) = R) := hrm
          clear hst hrm hb
          cases b1 : (xl[m] == 35)
          · rw [b1] at e1 HS
            clear e12
            cases b2 : (xl[m] == 43)
            · rw [b2] at e2 HS
              have HN : Hid (((xl.drop (m + 1)).all (okB xl lb) && V) = R) := by rw [← HM.out, HS.out]; rfl
              clear b1 b2
              go_wp2_with fail
              exact ⟨⟨m + 1, by omega, by go_num, HN.out⟩, by simp [intOf]; omega⟩
            · rw [b2] at e2 HS
              clear b1 b2
              cases t2
              · have HN : Hid (false = R) := by rw [← HM.out, HS.out]; rfl
                go_wp2_with fail
                go_ret
                exact ⟨ret_bool HN.out, HB.out⟩
              · have HN : Hid (((xl.drop (m + 1)).all (okB xl lb) && V) = R) := by rw [← HM.out, HS.out]; rfl
                go_wp2_with fail
                exact ⟨⟨m + 1, by omega, by go_num, HN.out⟩, by simp [intOf]; omega⟩
          · have b2 := e12 b1
            rw [b1] at e1 HS
            rw [b2] at e2 HS
            clear b1 b2 e12
            cases t1
            · have HN : Hid (false = R) := by rw [← HM.out, HS.out]; rfl
              go_wp2_with fail
              go_ret
              exact ⟨ret_bool HN.out, HB.out⟩
            · cases lb
              · have HN : Hid (false = R) := by rw [← HM.out, HS.out]; rfl
                go_wp2_with fail
                go_ret
                exact ⟨ret_bool HN.out, HB.out⟩
              · have HN : Hid (((xl.drop (m + 1)).all (okB xl true) && V) = R) := by rw [← HM.out, HS.out]; rfl
                go_wp2_with fail
                exact ⟨⟨m + 1, by omega, by go_num, HN.out⟩, by simp [intOf]; omega⟩
        · obtain rfl : m = x.size := by omega
          have HN : Hid (V = R) := by
            rw [← HL.out, List.drop_length] at hrm
            exact hrm
          clear hrm
          go_wp2_with fail
          exact ⟨⟨k + 1, by omega, by go_num, by rw [HV.out]; exact HN.out⟩, by simp [intOf]; omega⟩
    · obtain rfl : k = L.length := by omega
      have HN : Hid (true = R) := by
        have h := HK.out
        rw [List.drop_length] at h
        exact h
      go_wp2_with fail
      go_ret
      exact ⟨ret_bool HN.out, HB.out⟩
end Go.Proofs.Qxb6600528a.leaves
