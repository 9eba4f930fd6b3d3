import Derived.Test.Qxb6600528aRelate
namespace Go.Proofs.Qxb6600528a.leaves
open Go.RowKit
open plain (lv isS hsh plus rel dollar wild relate)

set_option maxHeartbeats 1000000 in
set_option maxRecDepth 100000 in
theorem relate_no (f g : ByteArray) (ov : Bool) (w : World) (hgd : (dollar g.data.toList && wild f.data.toList || dollar f.data.toList && wild g.data.toList) = true) :
    Calls Try.prog 30 #[.string f, .string g, .bool ov] w fun e w' => e = .returned (.bool false) ∧ w' = w := by
  obtain ⟨D1, hD1⟩ : ∃ b, dollar g.data.toList = b := ⟨_, rfl⟩
  obtain ⟨D2, hD2⟩ : ∃ b, dollar f.data.toList = b := ⟨_, rfl⟩
  obtain ⟨W1, hW1⟩ : ∃ b, wild f.data.toList = b := ⟨_, rfl⟩
  obtain ⟨W2, hW2⟩ : ∃ b, wild g.data.toList = b := ⟨_, rfl⟩
  rw [hD1, hD2, hW1, hW2] at hgd
  have C1 : Hid (∀ w, Calls Try.prog 36 #[.string g] w fun e w' => e = .returned (.bool D1) ∧ w' = w) := fun w => by rw [← hD1]; exact dollar_any g w
  have C2 : Hid (∀ w, Calls Try.prog 36 #[.string f] w fun e w' => e = .returned (.bool D2) ∧ w' = w) := fun w => by rw [← hD2]; exact dollar_any f w
  have C3 : Hid (∀ w, Calls Try.prog 37 #[.string f] w fun e w' => e = .returned (.bool W1) ∧ w' = w) := fun w => by rw [← hW1]; exact wild_any f w
  have C4 : Hid (∀ w, Calls Try.prog 37 #[.string g] w fun e w' => e = .returned (.bool W2) ∧ w' = w) := fun w => by rw [← hW2]; exact wild_any g w
  have HG : Hid ((D1 && W1 || D2 && W2) = true) := hgd
  clear hD1 hD2 hW1 hW2 hgd
  go_enter Try.func30, Try.ntmps30
  go_wp2_with fail
  refine (C1.out _).mono ?_
  rintro e w' ⟨rfl, hw⟩
  rw [hw]
  cases D1
  · go_wp2_with fail
    refine (C2.out _).mono ?_
    rintro e w' ⟨rfl, hw⟩
    rw [hw]
    cases D2
    · exact absurd HG.out (by simp)
    · have hw2 : W2 = true := HG.out
      go_wp2_with fail
      refine (C4.out _).mono ?_
      rintro e w' ⟨rfl, hw⟩
      rw [hw, hw2]
      go_wp2_with fail
      go_ret
      exact ⟨rfl, rfl⟩
  · go_wp2_with fail
    refine (C3.out _).mono ?_
    rintro e w' ⟨rfl, hw⟩
    rw [hw]
    cases W1
    · go_wp2_with fail
      refine (C2.out _).mono ?_
      rintro e w' ⟨rfl, hw⟩
      rw [hw]
      cases D2
      · exact absurd HG.out (by simp)
      · have hw2 : W2 = true := HG.out
        go_wp2_with fail
        refine (C4.out _).mono ?_
        rintro e w' ⟨rfl, hw⟩
        rw [hw, hw2]
        go_wp2_with fail
        go_ret
        exact ⟨rfl, rfl⟩
    · go_wp2_with fail
      go_ret
      exact ⟨rfl, rfl⟩

theorem relate_any (f g : ByteArray) (ov : Bool) (w : World) (hf : f.size ≤ 1048576) (hg : g.size ≤ 1048576) :
    Calls Try.prog 30 #[.string f, .string g, .bool ov] w fun e w' => e = .returned (.bool (relate ov f.data.toList g.data.toList)) ∧ Below w.heap.size w w' := by
  unfold relate
  cases h : (dollar g.data.toList && wild f.data.toList || dollar f.data.toList && wild g.data.toList)
  · exact (relate_loop f g ov w hf hg h).mono fun e w' ⟨h1, n, h2⟩ => ⟨h1, by rw [h2]; exact below_drewN' w n⟩
  · exact (relate_no f g ov w h).mono fun e w' ⟨h1, h2⟩ => ⟨h1, by rw [h2]; exact Below.refl _ _⟩

set_option maxHeartbeats 1000000 in
theorem zz_any (f g : ByteArray) (ov : Bool) (w : World) (hf : f.size ≤ 1048576) (hg : g.size ≤ 1048576) :
    Calls Try.prog 12 #[.string f, .string g, .bool ov] w fun e w' => e = .returned (.bool (relate ov f.data.toList g.data.toList)) ∧ Below w.heap.size w w' := by
  have HC : Hid (∀ w, Calls Try.prog 30 #[.string f, .string g, .bool ov] w fun e w' => e = .returned (.bool (relate ov f.data.toList g.data.toList)) ∧ Below w.heap.size w w') := fun w => relate_any f g ov w hf hg
  generalize relate ov f.data.toList g.data.toList = r at *
  go_enter Try.func12, Try.ntmps12
  go_wp2_with (go_at_call 30; refine (HC.out _).mono ?_; rintro e w1 ⟨rfl, hb1⟩)
  go_ret
  exact ⟨rfl, hb1⟩

def smallB (a b : ByteArray) : Bool := decide (a.size ≤ 1048576 ∧ a.size + b.size ≤ 1048576)

set_option maxHeartbeats 1000000 in
set_option maxRecDepth 100000 in
theorem bytes16 (a b : ByteArray) (w : World) (ha : a.size ≤ maxLen) (hb : b.size ≤ maxLen) :
    Calls Try.prog 16 #[.string a, .string b] w fun e w' => e = .returned (.bool (smallB a b)) ∧ w' = w := by
  unfold maxLen at ha hb
  have HD : Hid (smallB a b = decide (a.size ≤ 1048576 ∧ a.size + b.size ≤ 1048576)) := rfl
  go_enter Try.func16, Try.ntmps16
  go_wp2
  all_goals (go_ret; refine ⟨ret_bool ?_, rfl⟩)
  all_goals (rw [HD.out])
  all_goals first
    | exact (decide_eq_true (by omega)).symm
    | exact (decide_eq_false (by omega)).symm

theorem below_two {w w1 w2 : World} (h1 : Below w.heap.size w w1) (h2 : Below w1.heap.size w1 w2) : Below w.heap.size w w2 := h1.trans (h2.mono h1.size)

set_option maxHeartbeats 2000000 in
set_option maxRecDepth 100000 in
theorem walk5 (f g : ByteArray) (w : World) (ha : f.size ≤ maxLen) (hb : g.size ≤ maxLen) :
    Calls Try.prog 5 #[.string f, .string g] w fun e w' => e = .returned (.bool true) ∧ Below w.heap.size w w' := by
  have HBY : Hid (∀ w, Calls Try.prog 16 #[.string f, .string g] w fun e w' => e = .returned (.bool (smallB f g)) ∧ w' = w) := fun w => bytes16 f g w ha hb
  cases hsm : smallB f g
  · rw [hsm] at HBY
    go_enter Try.func5, Try.ntmps5
    go_wp2_with (go_at_call 16; refine (HBY.out _).mono ?_; rintro e w1 ⟨rfl, hw⟩; rw [hw])
    go_ret
    exact ⟨rfl, Below.refl _ _⟩
  · have hz := of_decide_eq_true hsm
    rw [hsm] at HBY
    by_cases hza : f.size ≤ 65536
    · by_cases hzb : g.size ≤ 65536
      · have R1 : Hid (∀ w, Calls Try.prog 12 #[.string f, .string f, .bool false] w fun e w' => e = .returned (.bool true) ∧ Below w.heap.size w w') := by
          intro w
          have h := zz_any f f false w (by omega) (by omega)
          rw [plain.relate_refl] at h
          exact h
        have R2 : Hid (∀ w, Calls Try.prog 12 #[.string f, .string f, .bool true] w fun e w' => e = .returned (.bool true) ∧ Below w.heap.size w w') := by
          intro w
          have h := zz_any f f true w (by omega) (by omega)
          rw [plain.relate_refl] at h
          exact h
        have R3 : Hid (∀ w, Calls Try.prog 12 #[.string f, .string g, .bool true] w fun e w' => e = .returned (.bool (relate true f.data.toList g.data.toList)) ∧ Below w.heap.size w w') := fun w => zz_any f g true w (by omega) (by omega)
        have R4 : Hid (∀ w, Calls Try.prog 12 #[.string g, .string f, .bool true] w fun e w' => e = .returned (.bool (relate true f.data.toList g.data.toList)) ∧ Below w.heap.size w w') := by
          intro w
          have h := zz_any g f true w (by omega) (by omega)
          rw [plain.relate_symm] at h
          exact h
        have R5 : Hid (∀ w, Calls Try.prog 12 #[.string f, .string g, .bool false] w fun e w' => e = .returned (.bool (relate false f.data.toList g.data.toList)) ∧ Below w.heap.size w w') := fun w => zz_any f g false w (by omega) (by omega)
        have hbel := plain.relate_below f.data.toList g.data.toList
        generalize relate true f.data.toList g.data.toList = r at *
        generalize relate false f.data.toList g.data.toList = q at *
        clear hz hsm
        have HQ : Hid (q = true → r = true) := hbel
        clear hbel
        have hrr : (r != r) = false := by cases r <;> rfl
        go_enter Try.func5, Try.ntmps5
        go_wp2_with (go_at_call 16; refine (HBY.out _).mono ?_; rintro e w1 ⟨rfl, hw⟩; rw [hw])
        refine (R1.out _).mono ?_
        rintro e w1 ⟨rfl, hb1⟩
        go_wp2_with fail
        refine (R2.out _).mono ?_
        rintro e w2 ⟨rfl, hb2⟩
        go_wp2_with fail
        refine (R3.out _).mono ?_
        rintro e w3 ⟨rfl, hb3⟩
        go_wp2_with fail
        refine (R4.out _).mono ?_
        rintro e w4 ⟨rfl, hb4⟩
        go_wp2_with fail
        refine (R5.out _).mono ?_
        rintro e w5 ⟨rfl, hb5⟩
        have HB : Hid (Below w.heap.size w w5) := below_two (below_two (below_two (below_two hb1 hb2) hb3) hb4) hb5
        clear hb1 hb2 hb3 hb4 hb5
        cases q
        · go_wp2_with fail
          go_ret
          exact ⟨rfl, HB.out⟩
        · obtain rfl := HQ.out rfl
          go_wp2_with fail
          go_ret
          exact ⟨rfl, HB.out⟩
      · have hzb' : ¬ g.size ≤ 65536 := hzb
        go_enter Try.func5, Try.ntmps5
        go_wp2_with (go_at_call 16; refine (HBY.out _).mono ?_; rintro e w1 ⟨rfl, hw⟩; rw [hw])
        go_ret
        exact ⟨rfl, Below.refl _ _⟩
    · go_enter Try.func5, Try.ntmps5
      go_wp2_with (go_at_call 16; refine (HBY.out _).mono ?_; rintro e w1 ⟨rfl, hw⟩; rw [hw])
      go_ret
      exact ⟨rfl, Below.refl _ _⟩
end Go.Proofs.Qxb6600528a.leaves
