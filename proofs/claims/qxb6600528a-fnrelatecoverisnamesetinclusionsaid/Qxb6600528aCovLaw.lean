import Derived.Test.Qxb6600528aCov
namespace Go.Proofs.Qxb6600528a.leaves
open Go.RowKit
open plain (lv valid relate coversG fresh)

set_option maxHeartbeats 1000000 in
set_option maxRecDepth 100000 in
theorem bytes10 (a b : ByteArray) (w : World) (ha : a.size ≤ maxLen) (hb : b.size ≤ maxLen) :
    Calls Try.prog 10 #[.string a, .string b] w fun e w' => e = .returned (.bool (smallB a b)) ∧ w' = w := by
  unfold maxLen at ha hb
  have HD : Hid (smallB a b = decide (a.size ≤ 1048576 ∧ a.size + b.size ≤ 1048576)) := rfl
  go_enter Try.func10, Try.ntmps10
  go_wp2
  all_goals (go_ret; refine ⟨ret_bool ?_, rfl⟩)
  all_goals (rw [HD.out])
  all_goals first
    | exact (decide_eq_true (by omega)).symm
    | exact (decide_eq_false (by omega)).symm

set_option maxHeartbeats 2000000 in
set_option maxRecDepth 100000 in
theorem walk3 (f g : ByteArray) (w : World) (ha : f.size ≤ maxLen) (hb : g.size ≤ maxLen) :
    Calls Try.prog 3 #[.string f, .string g] w fun e w' => e = .returned (.bool true) ∧ Below w.heap.size w w' := by
  have HBY : Hid (∀ w, Calls Try.prog 10 #[.string f, .string g] w fun e w' => e = .returned (.bool (smallB f g)) ∧ w' = w) := fun w => bytes10 f g w ha hb
  cases hsm : smallB f g
  · rw [hsm] at HBY
    go_enter Try.func3, Try.ntmps3
    go_wp2_with (go_at_call 10; refine (HBY.out _).mono ?_; rintro e w1 ⟨rfl, hw⟩; rw [hw])
    go_ret
    exact ⟨rfl, Below.refl _ _⟩
  · rw [hsm] at HBY
    clear hsm
    by_cases hza : f.size ≤ 65536
    · by_cases hzb : g.size ≤ 65536
      · obtain ⟨V1, hV1⟩ : ∃ b, valid (lv f.data.toList) = b := ⟨_, rfl⟩
        obtain ⟨V2, hV2⟩ : ∃ b, valid (lv g.data.toList) = b := ⟨_, rfl⟩
        have C1 : Hid (∀ w, Calls Try.prog 11 #[.string f] w fun e w' => e = .returned (.bool V1) ∧ Below w.heap.size w w') := fun w => by rw [← hV1]; exact valid_any f w (by omega)
        have C2 : Hid (∀ w, Calls Try.prog 11 #[.string g] w fun e w' => e = .returned (.bool V2) ∧ Below w.heap.size w w') := fun w => by rw [← hV2]; exact valid_any g w (by omega)
        have C3 : Hid (∀ w, Calls Try.prog 12 #[.string f, .string g, .bool false] w fun e w' => e = .returned (.bool (relate false f.data.toList g.data.toList)) ∧ Below w.heap.size w w') := fun w => zz_any f g false w (by omega) (by omega)
        have C4 : Hid (∀ w, Calls Try.prog 13 #[.string f, .string g] w fun e w' => e = .returned (.bool (coversG (lv f.data.toList) (lv g.data.toList) (fresh f.data.toList))) ∧ Below w.heap.size w w') := fun w => cov_any f g w hza hzb
        have HP : Hid (V1 = true → V2 = true → relate false f.data.toList g.data.toList = coversG (lv f.data.toList) (lv g.data.toList) (fresh f.data.toList)) := by
          intro h1 h2
          rw [h1] at hV1
          rw [h2] at hV2
          exact plain.cover _ _ hV1 hV2
        generalize relate false f.data.toList g.data.toList = r at *
        generalize coversG (lv f.data.toList) (lv g.data.toList) (fresh f.data.toList) = q at *
        clear hV1 hV2
        go_enter Try.func3, Try.ntmps3
        go_wp2_with (go_at_call 10; refine (HBY.out _).mono ?_; rintro e w1 ⟨rfl, hw⟩; rw [hw])
        refine (C1.out _).mono ?_
        rintro e w1 ⟨rfl, hb1⟩
        have HB1 : Hid (Below w.heap.size w w1) := hb1
        clear hb1
        cases V1
        · go_wp2_with fail
          go_ret
          exact ⟨rfl, HB1.out⟩
        · go_wp2_with fail
          refine (C2.out _).mono ?_
          rintro e w2 ⟨rfl, hb2⟩
          have HB2 : Hid (Below w.heap.size w w2) := below_two HB1.out hb2
          clear hb2
          cases V2
          · go_wp2_with fail
            go_ret
            exact ⟨rfl, HB2.out⟩
          · obtain rfl := HP.out (by simp) (by simp)
            have hrr : (r == r) = true := by cases r <;> rfl
            go_wp2_with fail
            refine (C3.out _).mono ?_
            rintro e w3 ⟨rfl, hb3⟩
            have HB3 : Hid (Below w.heap.size w w3) := below_two HB2.out hb3
            clear hb3
            go_wp2_with fail
            refine (C4.out _).mono ?_
            rintro e w4 ⟨rfl, hb4⟩
            have HB4 : Hid (Below w.heap.size w w4) := below_two HB3.out hb4
            clear hb4
            go_wp2_with fail
            go_ret
            exact ⟨rfl, HB4.out⟩
      · go_enter Try.func3, Try.ntmps3
        go_wp2_with (go_at_call 10; refine (HBY.out _).mono ?_; rintro e w1 ⟨rfl, hw⟩; rw [hw])
        go_ret
        exact ⟨rfl, Below.refl _ _⟩
    · go_enter Try.func3, Try.ntmps3
      go_wp2_with (go_at_call 10; refine (HBY.out _).mono ?_; rintro e w1 ⟨rfl, hw⟩; rw [hw])
      go_ret
      exact ⟨rfl, Below.refl _ _⟩
end Go.Proofs.Qxb6600528a.leaves
