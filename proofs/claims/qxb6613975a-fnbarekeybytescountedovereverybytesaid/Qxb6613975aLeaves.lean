import Derived.Test.Qxb6613975aRows
import Derived.WalkKit
import Derived.Laws.Runes
import Derived.Laws.Strings3
import Derived.WalkMore
import Derived.Deep.Draws
import Derived.Deep.QuietTactic
import Derived.BigQuiet
namespace Go.Proofs.Qxb6613975a.leaves
open Go.RowKit

def bareB (n : Int) : Bool := decide ((65 ≤ n ∧ n ≤ 90) ∨ (97 ≤ n ∧ n ≤ 122) ∨ (48 ≤ n ∧ n ≤ 57) ∨ n = 95 ∨ n = 45)
def keyB (n : Int) : Bool := decide (bareB n = true ∨ n = 34 ∨ n = 39)

theorem ret_bool {a b : Bool} (h : a = b) : Ending.returned (.bool a) = .returned (.bool b) := by rw [h]

set_option maxHeartbeats 400000 in
theorem bare_any (n : Int) (w : World) :
    Calls Try.prog 12 #[.int .u8 n] w fun e w' => e = .returned (.bool (bareB n)) ∧ w' = w := by
  go_enter Try.func12, Try.ntmps12
  go_wp2
  all_goals (go_ret; refine ⟨ret_bool ?_, rfl⟩)
  all_goals (rw [Bool.eq_iff_iff]; simp [bareB]; try omega)

set_option maxHeartbeats 400000 in
theorem zzbare_any (n : Int) (w : World) :
    Calls Try.prog 6 #[.int .u8 n] w fun e w' => e = .returned (.bool (bareB n)) ∧ w' = w := by
  go_enter Try.func6, Try.ntmps6
  go_wp2_with (go_at_call 12; refine (bare_any _ _).mono ?_; rintro e w' ⟨rfl, rfl⟩)
  go_ret
  exact ⟨rfl, rfl⟩

set_option maxHeartbeats 400000 in
theorem key_any (n : Int) (w : World) :
    Calls Try.prog 13 #[.int .u8 n] w fun e w' => e = .returned (.bool (keyB n)) ∧ w' = w := by
  go_enter Try.func13, Try.ntmps13
  go_wp2_with (go_at_call 12; refine (bare_any _ _).mono ?_; rintro e w' ⟨rfl, rfl⟩)
  all_goals (go_ret; refine ⟨ret_bool ?_, rfl⟩)
  all_goals (rw [Bool.eq_iff_iff]; simp_all [keyB])

set_option maxHeartbeats 400000 in
theorem zzkey_any (n : Int) (w : World) :
    Calls Try.prog 7 #[.int .u8 n] w fun e w' => e = .returned (.bool (keyB n)) ∧ w' = w := by
  go_enter Try.func7, Try.ntmps7
  go_wp2_with (go_at_call 13; refine (key_any _ _).mono ?_; rintro e w' ⟨rfl, rfl⟩)
  go_ret
  exact ⟨rfl, rfl⟩

def marks : List UInt8 := [33, 35, 36, 37, 38, 39, 42, 43, 46, 94, 96, 124, 126]

theorem ibs_run (s : ByteArray) (c : Int) (w : World) :
    (callFunc 23 #[.string s, .int .u8 c]).run Try.prog w = .ok (.value (.int .i64 (firstIdx s c.toNat.toUInt8))) w := by
  rw [run_callFunc_extern Try.func23 (by kernel_rfl) (by kernel_rfl) (by kernel_rfl) (e := Extern.BytealgIndexByte.indexByte) (by kernel_rfl), run_indexByte_string]
  rfl

set_option maxHeartbeats 400000 in
theorem indexByte_any (s : ByteArray) (c : Int) (w : World) :
    Calls Try.prog 18 #[.string s, .int .u8 c] w fun e w' => e = .returned (.int .i64 (firstIdx s c.toNat.toUInt8)) ∧ w' = w := by
  have hi := ibs_run
  go_enter Try.func18, Try.ntmps18
  go_wp2
  go_ret
  exact ⟨rfl, rfl⟩

set_option maxHeartbeats 1000000 in
set_option maxRecDepth 100000 in
theorem indexRune_ascii (s : ByteArray) (r : Int) (w : World) (h0 : 0 ≤ r) (h1 : r < 128) :
    Calls Try.prog 17 #[.string s, .int .i32 r] w fun e w' => e = .returned (.int .i64 (firstIdx s r.toNat.toUInt8)) ∧ w' = w := by
  go_enter Try.func17, Try.ntmps17
  go_wp2_with (go_at_call 18; refine (indexByte_any _ _ _).mono ?_; rintro e w' ⟨rfl, rfl⟩)
  go_ret
  exact ⟨rfl, rfl⟩

theorem ne_of_ascii (s rs : ByteArray) (i j : Nat) (hi : i < s.size) (hj : j < rs.size) (hs : ∀ b ∈ s.data.toList, b.toNat < 128) (hr : 128 ≤ (rs[j]'hj).toNat) :
    (((s[i]'hi).toNat : Int) != ((rs[j]'hj).toNat : Int)) = true := by
  have h := hs (s[i]'hi) (Array.getElem_mem_toList (xs := s.data) hi)
  rw [bne_iff_ne]; omega

set_option maxHeartbeats 1000000 in
set_option maxRecDepth 100000 in
theorem indexRune_high2 (s rs : ByteArray) (r : Int) (w : World) (h0 : 128 ≤ r) (h1 : r < 2048) (hrs : Utf8.encode r = rs) (hz : rs.size = 2) (hz1 : 1 < s.size) (hs : ∀ b ∈ s.data.toList, b.toNat < 128)
    (hr : 128 ≤ (rs[1]'(by omega)).toNat) :
    Calls Try.prog 17 #[.string s, .int .i32 r] w fun e w' => e = .returned (.int .i64 (-1)) ∧ ∃ n, w' = w.drewN n := by
  have hne := ne_of_ascii s rs 1 1 hz1 (by omega) hs hr
  have hfi := firstIdx_ascii s 2 s.size (rs[1]'(by omega)) hs hr
  have hfi' : firstIdx (s.extract 2 s.size) (((rs[1]'(by omega)).toNat : Int)).toNat.toUInt8 = -1 := by simpa using hfi
  have hz2 : (2 : Int) ≤ (s.size : Int) := by omega
  clear hs
  go_enter Try.func17, Try.ntmps17
  go_wp2_with (first | (go_at_call 18; refine (indexByte_any _ _ _).mono ?_; rintro e w' ⟨rfl, rfl⟩) | go_in)
  go_step3
  go_wp2_with fail
  refine wp_loop_rounds 1 ?_
  rw [rounds_succ]
  go_wp2_with fail
  go_step3
  go_wp2_with fail
  go_quiet (fail)
  go_wp2_with fail
  obtain ⟨w1, hw1⟩ : ∃ w1, w1 = w.drewN nq := ⟨_, rfl⟩
  rw [← hw1]
  have HW : Hid (w1 = w.drewN nq) := hw1
  clear hw1
  go_quiet ((go_at_call 18; exact Calls.quiet_of_same (indexByte_any _ _ _)))
  go_wp2_with fail
  rw [Exit.noGoto_ret]
  go_wp2_with fail
  rw [Exit.noGoto_ret]
  go_wp2_with fail
  go_ret
  refine ⟨rfl, ?_⟩
  rw [HW.out]
  exact ⟨_, World.drewN_drewN _ _ _⟩
end Go.Proofs.Qxb6613975a.leaves
