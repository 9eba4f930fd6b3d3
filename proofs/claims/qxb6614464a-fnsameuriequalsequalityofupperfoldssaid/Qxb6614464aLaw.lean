import Derived.Test.Qxb6614464aFold
namespace Go.Proofs.Qxb6614464a.leaves
open Go.RowKit
open plain (low up isC isE isA lastA hasSl reg inR mapR upper fold)

theorem fold_any (s : ByteArray) (w : World) (hs : s.size ≤ 1048576) :
    Calls Try.prog 19 #[.string s] w fun e w' => e = .returned (.string ⟨(fold s.data.toList).toArray⟩) ∧ Below w.heap.size w w' := by
  have hlen : s.data.toList.length = s.size := (Lib.size_eq s).symm
  by_cases hi : s.data.toList.findIdx isC < s.size
  · obtain ⟨c, hc⟩ : ∃ c, s.data.toList.findIdx isC = c := ⟨_, rfl⟩
    rw [hc] at hi
    cases hsl : hasSl s.data.toList c
    · exact fold_short s c w hs hc hi hsl
    · have hcut := cut_hit s c w hs hc hi
      have hp : pre2 (s.extract (c + 1) s.size) = true := by rw [pre2_rest s c]; exact hsl
      have hR : (s.extract (c + 1) s.size).data.toList = s.data.toList.drop (c + 1) := by
        rw [ext_list, List.take_of_length_le (by rw [List.length_drop, ← Lib.size_eq]; exact Nat.le_refl _)]
      have hA : (s.extract 0 c).data.toList = s.data.toList.take c := by rw [ext_list]; simp
      have hAz := ext_size s 0 c (by omega)
      have hRz := ext_size s (c + 1) s.size (Nat.le_refl _)
      generalize s.extract 0 c = A at *
      generalize s.extract (c + 1) s.size = R at *
      have hT : (R.extract 2 R.size).data.toList = s.data.toList.drop (c + 3) := by
        rw [ext_list, List.take_of_length_le (by rw [List.length_drop, ← Lib.size_eq]; exact Nat.le_refl _), hR, List.drop_drop]
      have hTz := ext_size R 2 R.size (Nat.le_refl _)
      obtain ⟨T, hTe⟩ : ∃ T, R.extract 2 R.size = T := ⟨_, rfl⟩
      rw [hTe] at hT hTz
      have hTl : T.data.toList.length = T.size := (Lib.size_eq T).symm
      obtain ⟨e, he⟩ : ∃ e, T.data.toList.findIdx isE = e := ⟨_, rfl⟩
      by_cases hlt : e < T.size
      · have hU : (T.extract 0 e).data.toList = T.data.toList.take e := by rw [ext_list]; simp
        have hUz := ext_size T 0 e (by omega)
        have hV : (T.extract e T.size).data.toList = T.data.toList.drop e := by
          rw [ext_list, List.take_of_length_le (by rw [List.length_drop, ← Lib.size_eq]; exact Nat.le_refl _)]
        have hVz := ext_size T e T.size (Nat.le_refl _)
        obtain ⟨U, hUe⟩ : ∃ U, T.extract 0 e = U := ⟨_, rfl⟩
        obtain ⟨V, hVe⟩ : ∃ V, T.extract e T.size = V := ⟨_, rfl⟩
        rw [hUe] at hU hUz
        rw [hVe] at hV hVz
        obtain ⟨h, hh⟩ : ∃ h, lastA U.data.toList = h := ⟨_, rfl⟩
        have hhe : h ≤ e := by
          have := plain.lastA_le U.data.toList
          rw [hh, ← Lib.size_eq, hUz] at this
          omega
        have hf := plain.fold_long s.data.toList c e h T.data.toList hc (by rw [hlen]; exact hi) hsl hT.symm he (by rw [← hU]; exact hh)
        refine fold_long1 s A R T U V e h w hcut (by omega) hp hTe (by omega) he (by omega) hUe (by omega) hVe (by omega) hh (by omega) ?_
        have h2 : T.data.toList.take h = U.data.toList.take h := by rw [hU, List.take_take, Nat.min_eq_left hhe]
        show fold s.data.toList = _
        rw [hf, hA, hU, hV, h2, hU]
      · have heq : e = T.data.toList.length := by
          have := List.findIdx_le_length (p := isE) (xs := T.data.toList)
          omega
        obtain ⟨h, hh⟩ : ∃ h, lastA T.data.toList = h := ⟨_, rfl⟩
        have hhe : h ≤ T.size := by
          have := plain.lastA_le T.data.toList
          rw [hh, ← Lib.size_eq] at this
          omega
        have hte : T.data.toList.take e = T.data.toList := List.take_of_length_le (by omega)
        have hf := plain.fold_long s.data.toList c e h T.data.toList hc (by rw [hlen]; exact hi) hsl hT.symm he (by rw [hte]; exact hh)
        refine fold_long2 s A R T T.size h w hcut (by omega) hp hTe (by omega) (by show ¬ _; rw [he]; exact hlt) rfl hh (by omega) ?_
        show fold s.data.toList = _
        rw [hf, hA, hte, List.drop_eq_nil_of_le (by omega : T.data.toList.length ≤ e)]
  · exact fold_none s w hi

theorem mk_eq (a b : List UInt8) : ((⟨a.toArray⟩ : ByteArray).toList == (⟨b.toArray⟩ : ByteArray).toList) = (a == b) := by
  rw [Lib.toList_data, Lib.toList_data]

theorem below_two {w w1 w2 : World} (h1 : Below w.heap.size w w1) (h2 : Below w1.heap.size w1 w2) : Below w.heap.size w w2 := h1.trans (h2.mono h1.size)

set_option maxHeartbeats 1000000 in
set_option maxRecDepth 100000 in
theorem same0_any (a b : ByteArray) (w : World) (ha : a.size ≤ 1048576) (hb : b.size ≤ 1048576) :
    Calls Try.prog 18 #[.string a, .string b] w fun e w' => e = .returned (.bool (fold a.data.toList == fold b.data.toList)) ∧ Below w.heap.size w w' := by
  have HA : Hid (∀ w, Calls Try.prog 19 #[.string a] w fun e w' => e = .returned (.string ⟨(fold a.data.toList).toArray⟩) ∧ Below w.heap.size w w') := fun w => fold_any a w ha
  have HB : Hid (∀ w, Calls Try.prog 19 #[.string b] w fun e w' => e = .returned (.string ⟨(fold b.data.toList).toArray⟩) ∧ Below w.heap.size w w') := fun w => fold_any b w hb
  have HE : Hid (((⟨(fold a.data.toList).toArray⟩ : ByteArray).toList == (⟨(fold b.data.toList).toArray⟩ : ByteArray).toList) = (fold a.data.toList == fold b.data.toList)) := mk_eq _ _
  generalize (⟨(fold a.data.toList).toArray⟩ : ByteArray) = FA at *
  generalize (⟨(fold b.data.toList).toArray⟩ : ByteArray) = FB at *
  go_enter Try.func18, Try.ntmps18
  go_wp2_with fail
  refine (HA.out _).mono ?_
  rintro e w1 ⟨rfl, hb1⟩
  go_wp2_with fail
  refine (HB.out _).mono ?_
  rintro e w2 ⟨rfl, hb2⟩
  go_wp2_with fail
  go_ret
  exact ⟨ret_bool HE.out, below_two hb1 hb2⟩

set_option maxHeartbeats 1000000 in
set_option maxRecDepth 100000 in
theorem same_any (a b : ByteArray) (w : World) (ha : a.size ≤ 1048576) (hb : b.size ≤ 1048576) :
    Calls Try.prog 12 #[.string a, .string b] w fun e w' => e = .returned (.bool (fold a.data.toList == fold b.data.toList)) ∧ Below w.heap.size w w' := by
  have HA : Hid (∀ w, Calls Try.prog 18 #[.string a, .string b] w fun e w' => e = .returned (.bool (fold a.data.toList == fold b.data.toList)) ∧ Below w.heap.size w w') := fun w => same0_any a b w ha hb
  generalize (fold a.data.toList == fold b.data.toList) = r at *
  go_enter Try.func12, Try.ntmps12
  go_wp2_with (go_at_call 18; refine (HA.out _).mono ?_; rintro e w1 ⟨rfl, hb1⟩)
  go_ret
  exact ⟨rfl, hb1⟩

def smallB (a b : ByteArray) : Bool := decide (a.size ≤ 1048576 ∧ a.size + b.size ≤ 1048576)

set_option maxHeartbeats 1000000 in
set_option maxRecDepth 100000 in
theorem bytes_any (a b : ByteArray) (w : World) (ha : a.size ≤ maxLen) (hb : b.size ≤ maxLen) :
    Calls Try.prog 10 #[.string a, .string b] w fun e w' => e = .returned (.bool (smallB a b)) ∧ w' = w := by
  unfold maxLen at ha hb
  have HD : Hid (smallB a b = decide (a.size ≤ 1048576 ∧ a.size + b.size ≤ 1048576)) := rfl
  go_enter Try.func10, Try.ntmps10
  go_wp2
  all_goals (go_ret; refine ⟨ret_bool ?_, rfl⟩)
  all_goals (rw [HD.out])
  all_goals first
    | exact (decide_eq_true (by omega)).symm
    | exact (decide_eq_false (by omega)).symm

theorem eq_of_fold (a b : List UInt8) : (fold a == fold b) = (upper a == upper b) := by
  rw [Bool.eq_iff_iff, beq_iff_eq, beq_iff_eq]
  exact plain.fold_iff a b

set_option maxHeartbeats 2000000 in
set_option maxRecDepth 100000 in
theorem walk0 (a b : ByteArray) (w : World) (ha : a.size ≤ maxLen) (hb : b.size ≤ maxLen) :
    Calls Try.prog 5 #[.string a, .string b] w fun e w' => e = .returned (.bool true) ∧ Below w.heap.size w w' := by
  have HBY : Hid (∀ w, Calls Try.prog 10 #[.string a, .string b] w fun e w' => e = .returned (.bool (smallB a b)) ∧ w' = w) := fun w => bytes_any a b w ha hb
  cases hsm : smallB a b
  · rw [hsm] at HBY
    go_enter Try.func5, Try.ntmps5
    go_wp2_with (go_at_call 10; refine (HBY.out _).mono ?_; rintro e w1 ⟨rfl, hw⟩; rw [hw])
    go_ret
    exact ⟨rfl, Below.refl _ _⟩
  · have hz := of_decide_eq_true hsm
    rw [hsm] at HBY
    by_cases hza : a.size ≤ 524288
    · by_cases hzb : b.size ≤ 524288
      · have hul : (⟨(upper a.data.toList).toArray⟩ : ByteArray).size = a.size := by
          rw [Lib.size_eq, Lib.size_eq]
          simp [upper_length]
        have HUA : Hid (∀ w, Calls Try.prog 11 #[.string a] w fun e w' => e = .returned (.string ⟨(upper a.data.toList).toArray⟩) ∧ Below w.heap.size w w') := fun w => upper_any a w (by omega)
        have HUB : Hid (∀ w, Calls Try.prog 11 #[.string b] w fun e w' => e = .returned (.string ⟨(upper b.data.toList).toArray⟩) ∧ Below w.heap.size w w') := fun w => upper_any b w (by omega)
        have HE : Hid (((⟨(upper a.data.toList).toArray⟩ : ByteArray).toList == (⟨(upper b.data.toList).toArray⟩ : ByteArray).toList) = (upper a.data.toList == upper b.data.toList)) := mk_eq _ _
        have HS1 : Hid (∀ w, Calls Try.prog 12 #[.string a, .string b] w fun e w' => e = .returned (.bool (upper a.data.toList == upper b.data.toList)) ∧ Below w.heap.size w w') := by
          intro w
          rw [← eq_of_fold]
          exact same_any a b w (by omega) (by omega)
        have HS2 : Hid (∀ w, Calls Try.prog 12 #[.string b, .string a] w fun e w' => e = .returned (.bool (upper a.data.toList == upper b.data.toList)) ∧ Below w.heap.size w w') := by
          intro w
          have h := same_any b a w (by omega) (by omega)
          rw [eq_of_fold, show (upper b.data.toList == upper a.data.toList) = (upper a.data.toList == upper b.data.toList) from by rw [Bool.eq_iff_iff, beq_iff_eq, beq_iff_eq]; exact eq_comm] at h
          exact h
        have HS3 : Hid (∀ w, Calls Try.prog 12 #[.string a, .string ⟨(upper a.data.toList).toArray⟩] w fun e w' => e = .returned (.bool true) ∧ Below w.heap.size w w') := by
          intro w
          have h := same_any a ⟨(upper a.data.toList).toArray⟩ w (by omega) (by rw [hul]; omega)
          have e1 : (fold a.data.toList == fold (⟨(upper a.data.toList).toArray⟩ : ByteArray).data.toList) = true := by
            rw [beq_iff_eq]
            show fold a.data.toList = fold (upper a.data.toList)
            rw [plain.fold_upper]
          rw [e1] at h
          exact h
        clear hul
        generalize (⟨(upper a.data.toList).toArray⟩ : ByteArray) = UA at *
        generalize (⟨(upper b.data.toList).toArray⟩ : ByteArray) = UB at *
        generalize (upper a.data.toList == upper b.data.toList) = r at *
        have hE : (UA.toList == UB.toList) = r := HE.out
        have hrr : (r == r) = true := by cases r <;> rfl
        clear hz hsm
        go_enter Try.func5, Try.ntmps5
        go_wp2_with (go_at_call 10; refine (HBY.out _).mono ?_; rintro e w1 ⟨rfl, hw⟩; rw [hw])
        refine (HUA.out _).mono ?_
        rintro e w1 ⟨rfl, hb1⟩
        go_wp2_with fail
        refine (HUB.out _).mono ?_
        rintro e w2 ⟨rfl, hb2⟩
        go_wp2_with fail
        refine (HS1.out _).mono ?_
        rintro e w3 ⟨rfl, hb3⟩
        go_wp2_with fail
        refine (HS2.out _).mono ?_
        rintro e w4 ⟨rfl, hb4⟩
        go_wp2_with fail
        refine (HS3.out _).mono ?_
        rintro e w5 ⟨rfl, hb5⟩
        go_wp2_with fail
        go_ret
        exact ⟨rfl, below_two (below_two (below_two (below_two hb1 hb2) hb3) hb4) hb5⟩
      · go_enter Try.func5, Try.ntmps5
        go_wp2_with (go_at_call 10; refine (HBY.out _).mono ?_; rintro e w1 ⟨rfl, hw⟩; rw [hw])
        go_ret
        exact ⟨rfl, Below.refl _ _⟩
    · go_enter Try.func5, Try.ntmps5
      go_wp2_with (go_at_call 10; refine (HBY.out _).mono ?_; rintro e w1 ⟨rfl, hw⟩; rw [hw])
      go_ret
      exact ⟨rfl, Below.refl _ _⟩
end Go.Proofs.Qxb6614464a.leaves
