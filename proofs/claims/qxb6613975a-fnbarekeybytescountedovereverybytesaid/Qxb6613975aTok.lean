import Derived.Test.Qxb6613975aLeaves
import Derived.Lib.Strings
namespace Go.Proofs.Qxb6613975a.leaves
open Go.RowKit

def markL : List Int := [33, 35, 36, 37, 38, 39, 42, 43, 46, 94, 96, 124, 126]
def markB (n : Int) : Bool := markL.contains n
def tokB (n : Int) : Bool := bareB n || markB n
def M : ByteArray := ⟨#[33, 35, 36, 37, 38, 39, 42, 43, 46, 94, 96, 124, 126]⟩

theorem mark_low_nat : ∀ k : Nat, k < 128 → M.data.toList.any (· == k.toUInt8) = markB (k : Int) := by decide +kernel
theorem mark_high_nat : ∀ k : Nat, k < 256 → 128 ≤ k → markB (k : Int) = false := by decide +kernel
theorem mark_low (r : Int) (h0 : 0 ≤ r) (h1 : r < 128) : decide (0 ≤ firstIdx M r.toNat.toUInt8) = markB r := by
  obtain ⟨k, rfl⟩ := Int.eq_ofNat_of_zero_le h0
  rw [firstIdx_nonneg, Int.toNat_natCast]
  exact mark_low_nat k (by omega)
theorem mark_high (r : Int) (h0 : 128 ≤ r) (h1 : r < 256) : markB r = false := by
  obtain ⟨k, rfl⟩ := Int.eq_ofNat_of_zero_le (by omega : 0 ≤ r)
  exact mark_high_nat k (by omega) (by omega)
theorem M_ascii : ∀ b ∈ M.data.toList, b.toNat < 128 := by decide
theorem enc_size (r : Int) (h0 : 128 ≤ r) (h1 : r < 256) : (Utf8.encode r).size = 2 := by
  have hv : Utf8.valid r = true := by rw [validRune_eq]; simp [validRune]; omega
  have hc : ¬ r.toNat < 128 := by omega
  have hd : r.toNat < 2048 := by omega
  unfold Utf8.encode
  simp only [hv, if_true, hc, if_false, hd]
  rfl

set_option maxHeartbeats 1000000 in
set_option maxRecDepth 100000 in
theorem contains_any (r : Int) (w : World) (h0 : 0 ≤ r) (h1 : r < 256) :
    Calls Try.prog 16 #[.string M, .int .i32 r] w fun e w' => e = .returned (.bool (markB r)) ∧ ∃ n, w' = w.drewN n := by
  by_cases hlt : r < 128
  · have hm := mark_low r h0 hlt
    generalize M = s at hm ⊢
    go_enter Try.func16, Try.ntmps16
    go_wp2_with (go_at_call 17; refine (indexRune_ascii _ _ _ h0 hlt).mono ?_; rintro e w' ⟨rfl, rfl⟩)
    go_ret
    exact ⟨rfl, 0, rfl⟩
  · have hm := mark_high r (by omega) h1
    have hs := M_ascii
    have hz1 : 1 < M.size := by decide
    have hv : Utf8.valid r = true := by rw [validRune_eq]; simp [validRune]; omega
    have hz := enc_size r (by omega) h1
    have hf := (encode_facts r hv (by omega)).2.2
    obtain ⟨rs, hrs⟩ : ∃ rs, Utf8.encode r = rs := ⟨_, rfl⟩
    rw [hrs] at hz hf
    have hr : 128 ≤ (rs[1]'(by omega)).toNat := by
      have h := hf (by omega)
      simp only [hz] at h
      exact h
    generalize M = s at hs hz1 ⊢
    have HC : Hid (∀ w, Calls Try.prog 17 #[.string s, .int .i32 r] w fun e w' => e = .returned (.int .i64 (-1)) ∧ ∃ n, w' = w.drewN n) :=
      fun w => indexRune_high2 s rs r w (by omega) (by omega) hrs hz hz1 hs hr
    clear hf hs hrs hz hr
    go_enter Try.func16, Try.ntmps16
    go_wp2_with (go_at_call 17; refine (HC.out _).mono ?_; rintro e w' ⟨rfl, hn⟩)
    go_ret
    exact ⟨ret_bool hm.symm, hn⟩

set_option maxHeartbeats 1000000 in
set_option maxRecDepth 100000 in
theorem token_one (s : ByteArray) (n : Int) (w : World) (h0 : 0 ≤ n) (h1 : n < 256) (hz : s.size = 1) (hc : ((s[0]'(by omega)).toNat : Int) = n) :
    Calls Try.prog 14 #[.string s] w fun e w' => e = .returned (.bool (tokB n)) ∧ ∃ n, w' = w.drewN n := by
  have hemp : s.toList.isEmpty = false := by
    rw [Lib.toList_data]
    cases h : s.data.toList with
    | nil => have := Lib.size_eq s; rw [h, List.length_nil] at this; omega
    | cons _ _ => rfl
  by_cases hb : bareB n = true
  · have ht : tokB n = true := by simp [tokB, hb]
    rw [ht]
    go_enter Try.func14, Try.ntmps14
    go_wp2_with fail
    refine wp_loop_rounds 2 ?_
    rw [rounds_succ]
    go_wp2_with (go_at_call 12; refine (bare_any _ _).mono ?_; rintro e w' ⟨rfl, rfl⟩)
    rw [rounds_succ]
    go_wp2_with fail
    go_ret
    exact ⟨rfl, 0, rfl⟩
  · have hb' : bareB n = false := by simpa using hb
    have ht : tokB n = markB n := by simp [tokB, hb']
    rw [ht]
    have HC : Hid (∀ w, Calls Try.prog 16 #[.string M, .int .i32 n] w fun e w' => e = .returned (.bool (markB n)) ∧ ∃ n, w' = w.drewN n) := fun w => contains_any n w h0 h1
    cases hm : markB n
    · rw [hm] at HC
      go_enter Try.func14, Try.ntmps14
      go_wp2_with fail
      refine wp_loop_rounds 2 ?_
      rw [rounds_succ]
      go_wp2_with (first | (go_at_call 12; refine (bare_any _ _).mono ?_; rintro e w' ⟨rfl, rfl⟩) | (go_at_call 16; refine (HC.out _).mono ?_; rintro e w' ⟨rfl, hn⟩))
      go_ret
      exact ⟨rfl, hn⟩
    · rw [hm] at HC
      go_enter Try.func14, Try.ntmps14
      go_wp2_with fail
      refine wp_loop_rounds 2 ?_
      rw [rounds_succ]
      go_wp2_with (first | (go_at_call 12; refine (bare_any _ _).mono ?_; rintro e w' ⟨rfl, rfl⟩) | (go_at_call 16; refine (HC.out _).mono ?_; rintro e w' ⟨rfl, hn⟩))
      rw [rounds_succ]
      go_wp2_with fail
      go_ret
      exact ⟨rfl, hn⟩
end Go.Proofs.Qxb6613975a.leaves
