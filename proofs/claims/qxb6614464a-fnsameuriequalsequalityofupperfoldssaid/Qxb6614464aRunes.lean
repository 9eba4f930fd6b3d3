import Derived.Test.Qxb6614464aRows
import Derived.Test.Qxb6614464aPlain
import Derived.Test.Qxb6614464aShelf
import Derived.WalkKit
import Derived.Laws.Runes
import Derived.Laws.Strings3
import Derived.Laws.RangeAny
import Derived.WalkMore
import Derived.WalkSmall
import Derived.Lib.OthersKept
import Derived.Lib.Strings
import Derived.Lib.IndexAny
import Derived.Lib.IndexBytes
import Derived.Deep.Draws
import Derived.Deep.QuietTactic
import Derived.Deep.LoopGhost
import Derived.BigQuiet
namespace Go.Proofs.Qxb6614464a.leaves
open Go.RowKit

theorem ibs_run (s : ByteArray) (c : Int) (w : World) :
    (callFunc 40 #[.string s, .int .u8 c]).run Try.prog w = .ok (.value (.int .i64 (firstIdx s c.toNat.toUInt8))) w := by
  rw [run_callFunc_extern Try.func40 (by kernel_rfl) (by kernel_rfl) (by kernel_rfl) (e := Extern.BytealgIndexByte.indexByte) (by kernel_rfl), run_indexByte_string]
  rfl

set_option maxHeartbeats 400000 in
theorem indexByte_any (s : ByteArray) (c : Int) (w : World) :
    Calls Try.prog 34 #[.string s, .int .u8 c] w fun e w' => e = .returned (.int .i64 (firstIdx s c.toNat.toUInt8)) ∧ w' = w := by
  have hi := ibs_run
  go_enter Try.func34, Try.ntmps34
  go_wp2
  go_ret
  exact ⟨rfl, rfl⟩

theorem ne_of_ascii (s rs : ByteArray) (i j : Nat) (hi : i < s.size) (hj : j < rs.size) (hs : ∀ b ∈ s.data.toList, b.toNat < 128) (hr : 128 ≤ (rs[j]'hj).toNat) :
    (((s[i]'hi).toNat : Int) != ((rs[j]'hj).toNat : Int)) = true := by
  have h := hs (s[i]'hi) (Array.getElem_mem_toList (xs := s.data) hi)
  rw [bne_iff_ne]; omega

set_option maxHeartbeats 1000000 in
set_option maxRecDepth 100000 in
theorem valid_any (r : Int) (w : World) (hv : validRune r = true) :
    Calls Try.prog 35 #[.int .i32 r] w fun e w' => e = .returned (.bool true) ∧ w' = w := by
  rcases of_decide_eq_true hv with ⟨h0, h1⟩ | ⟨h0, h1⟩
  · go_enter Try.func35, Try.ntmps35
    go_wp2
    go_ret
    exact ⟨rfl, rfl⟩
  · have h2 : ¬ r < 55296 := by omega
    go_enter Try.func35, Try.ntmps35
    go_wp2
    go_ret
    exact ⟨rfl, rfl⟩

set_option maxHeartbeats 1000000 in
set_option maxRecDepth 100000 in
theorem indexRune_2 (s rs : ByteArray) (r : Int) (w : World) (h0 : 128 ≤ r) (hne3 : (r == 65533) = false) (hv : validRune r = true) (hrs : Utf8.encode r = rs) (hz : rs.size = 2) (hz3 : s.size = 3) (hs : ∀ b ∈ s.data.toList, b.toNat < 128)
    (hr : 128 ≤ (rs[1]'(by omega)).toNat) :
    Calls Try.prog 27 #[.string s, .int .i32 r] w fun e w' => e = .returned (.int .i64 (-1)) ∧ ∃ n, w' = w.drewN n := by
  have hne := ne_of_ascii s rs 1 1 (by omega) (by omega) hs hr
  have hfi := firstIdx_ascii s 2 3 (rs[1]'(by omega)) hs hr
  have HV : Hid (validRune r = true) := hv
  clear hs hv
  go_enter Try.func27, Try.ntmps27
  go_wp2_with (go_at_call 35; refine (valid_any _ _ HV.out).mono ?_; rintro e w' ⟨rfl, rfl⟩)
  go_step3
  go_wp2_with fail
  refine wp_loop_rounds 1 ?_
  rw [rounds_succ]
  go_wp2_with fail
  go_step3
  go_wp2_with fail
  go_quiet (fail)
  go_wp2_with fail
  obtain ⟨w1, hw1⟩ : ∃ w1, w1 = w'.drewN nq := ⟨_, rfl⟩
  rw [← hw1]
  have HW : Hid (w1 = w'.drewN nq) := hw1
  clear hw1
  go_quiet ((go_at_call 34; exact Calls.quiet_of_same (indexByte_any _ _ _)))
  go_wp2_with fail
  rw [Exit.noGoto_ret]
  go_wp2_with fail
  rw [Exit.noGoto_ret]
  go_wp2_with fail
  go_ret
  refine ⟨rfl, ?_⟩
  rw [HW.out]
  exact ⟨_, World.drewN_drewN _ _ _⟩

set_option maxHeartbeats 1000000 in
set_option maxRecDepth 100000 in
theorem indexRune_3 (s rs : ByteArray) (r : Int) (w : World) (h0 : 128 ≤ r) (hne3 : (r == 65533) = false) (hv : validRune r = true) (hrs : Utf8.encode r = rs) (hz : rs.size = 3) (hz3 : s.size = 3) (hs : ∀ b ∈ s.data.toList, b.toNat < 128)
    (hr : 128 ≤ (rs[2]'(by omega)).toNat) :
    Calls Try.prog 27 #[.string s, .int .i32 r] w fun e w' => e = .returned (.int .i64 (-1)) ∧ ∃ n, w' = w.drewN n := by
  have hne := ne_of_ascii s rs 2 2 (by omega) (by omega) hs hr
  have hfi := firstIdx_ascii s 3 3 (rs[2]'(by omega)) hs hr
  have HV : Hid (validRune r = true) := hv
  clear hs hv
  go_enter Try.func27, Try.ntmps27
  go_wp2_with (go_at_call 35; refine (valid_any _ _ HV.out).mono ?_; rintro e w' ⟨rfl, rfl⟩)
  go_step3
  go_wp2_with fail
  refine wp_loop_rounds 1 ?_
  rw [rounds_succ]
  go_wp2_with fail
  go_step3
  go_wp2_with fail
  go_quiet (fail)
  go_wp2_with fail
  obtain ⟨w1, hw1⟩ : ∃ w1, w1 = w'.drewN nq := ⟨_, rfl⟩
  rw [← hw1]
  have HW : Hid (w1 = w'.drewN nq) := hw1
  clear hw1
  go_quiet ((go_at_call 34; exact Calls.quiet_of_same (indexByte_any _ _ _)))
  go_wp2_with fail
  rw [Exit.noGoto_ret]
  go_wp2_with fail
  rw [Exit.noGoto_ret]
  go_wp2_with fail
  go_ret
  refine ⟨rfl, ?_⟩
  rw [HW.out]
  exact ⟨_, World.drewN_drewN _ _ _⟩

set_option maxHeartbeats 1000000 in
set_option maxRecDepth 100000 in
theorem indexRune_4 (s rs : ByteArray) (r : Int) (w : World) (h0 : 128 ≤ r) (hne3 : (r == 65533) = false) (hv : validRune r = true) (hrs : Utf8.encode r = rs) (hz : rs.size = 4) (hz3 : s.size = 3) :
    Calls Try.prog 27 #[.string s, .int .i32 r] w fun e w' => e = .returned (.int .i64 (-1)) ∧ ∃ n, w' = w.drewN n := by
  have HV : Hid (validRune r = true) := hv
  clear hv
  go_enter Try.func27, Try.ntmps27
  go_wp2_with (go_at_call 35; refine (valid_any _ _ HV.out).mono ?_; rintro e w' ⟨rfl, rfl⟩)
  go_step3
  go_wp2_with fail
  refine wp_loop_rounds 1 ?_
  rw [rounds_succ]
  go_wp2_with fail
  rw [Exit.noGoto_ret]
  go_wp2_with fail
  go_ret
  exact ⟨rfl, 0, rfl⟩

set_option maxHeartbeats 1000000 in
set_option maxRecDepth 100000 in
theorem indexRune_err (s : ByteArray) (w : World) (hz3 : s.size = 3) (hs : ∀ b ∈ s.data.toList, b.toNat < 128) :
    Calls Try.prog 27 #[.string s, .int .i32 65533] w fun e w' => e = .returned (.int .i64 (-1)) ∧ w' = w.iter s 3 := by
  have hb0 : (s[0]'(by omega)).toNat < 128 := hs _ (Array.getElem_mem_toList (xs := s.data) (by show 0 < s.size; omega))
  have hb1 : (s[1]'(by omega)).toNat < 128 := hs _ (Array.getElem_mem_toList (xs := s.data) (by show 1 < s.size; omega))
  have hb2 : (s[2]'(by omega)).toNat < 128 := hs _ (Array.getElem_mem_toList (xs := s.data) (by show 2 < s.size; omega))
  have n0 := fun ty => run_next_ascii (P := Try.prog) w s 0 ty (by omega) hb0
  have n1 := fun ty => run_next_ascii (P := Try.prog) w s 1 ty (by omega) hb1
  have n2 := fun ty => run_next_ascii (P := Try.prog) w s 2 ty (by omega) hb2
  have n3 := fun ty => run_next_end (P := Try.prog) w s 3 ty (by omega)
  have e0 : ((((s[0]'(by omega)).toNat : Int)) == 65533) = false := by rw [beq_eq_false_iff_ne]; omega
  have e1 : ((((s[1]'(by omega)).toNat : Int)) == 65533) = false := by rw [beq_eq_false_iff_ne]; omega
  have e2 : ((((s[2]'(by omega)).toNat : Int)) == 65533) = false := by rw [beq_eq_false_iff_ne]; omega
  clear hs hb0 hb1 hb2
  go_enter Try.func27, Try.ntmps27
  go_wp2_with fail
  refine wp_loop_rounds 4 ?_
  rw [rounds_succ]
  go_wp2_with fail
  rw [rounds_succ]
  go_wp2_with fail
  rw [rounds_succ]
  go_wp2_with fail
  rw [rounds_succ]
  go_wp2_with fail
  go_ret
  exact ⟨rfl, rfl⟩

theorem below_drewN' (w : World) (n : Nat) : Below w.heap.size w (w.drewN n) := ⟨rfl, rfl, rfl, Nat.le_refl _, fun _ _ => rfl⟩

theorem indexRune_high (s : ByteArray) (r : Int) (w : World) (h0 : 128 ≤ r) (hv : validRune r = true) (hz3 : s.size = 3) (hs : ∀ b ∈ s.data.toList, b.toNat < 128) :
    Calls Try.prog 27 #[.string s, .int .i32 r] w fun e w' => e = .returned (.int .i64 (-1)) ∧ Below w.heap.size w w' := by
  by_cases he : r = 65533
  · subst he
    exact (indexRune_err s w hz3 hs).mono fun e w' ⟨a, b⟩ => ⟨a, by rw [b]; exact (Below.refl _ _).alloc (Nat.le_refl _) _⟩
  · have hne3 : (r == 65533) = false := by rw [beq_eq_false_iff_ne]; exact he
    have hv' : Utf8.valid r = true := by rw [validRune_eq]; exact hv
    obtain ⟨f1, f2, f3⟩ := encode_facts r hv' h0
    obtain ⟨rs, hrs⟩ : ∃ rs, Utf8.encode r = rs := ⟨_, rfl⟩
    rw [hrs] at f1 f2 f3
    have f4 := f3 (by omega)
    have hc : rs.size = 2 ∨ rs.size = 3 ∨ rs.size = 4 := by omega
    rcases hc with hz | hz | hz
    · simp only [hz] at f4
      exact (indexRune_2 s rs r w h0 hne3 hv hrs hz hz3 hs f4).mono fun e w' ⟨a, n, b⟩ => ⟨a, by rw [b]; exact below_drewN' w n⟩
    · simp only [hz] at f4
      exact (indexRune_3 s rs r w h0 hne3 hv hrs hz hz3 hs f4).mono fun e w' ⟨a, n, b⟩ => ⟨a, by rw [b]; exact below_drewN' w n⟩
    · exact (indexRune_4 s rs r w h0 hne3 hv hrs hz hz3).mono fun e w' ⟨a, n, b⟩ => ⟨a, by rw [b]; exact below_drewN' w n⟩

end Go.Proofs.Qxb6614464a.leaves
