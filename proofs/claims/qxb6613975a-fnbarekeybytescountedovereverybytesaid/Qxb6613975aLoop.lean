import Derived.Test.Qxb6613975aTok
import Derived.Laws.BytesArg
namespace Go.Proofs.Qxb6613975a.leaves
open Go.RowKit

def cntF (p : Int → Bool) : Nat → Int
  | 0 => 0
  | k + 1 => if p k then cntF p k + 1 else cntF p k
def firstF : Nat → Int
  | 0 => -1
  | k + 1 => if bareB k && decide (firstF k < 0) then k else firstF k
def lastF : Nat → Int
  | 0 => -1
  | k + 1 => if bareB k then k else lastF k
theorem cntF_bd (p : Int → Bool) : ∀ k : Nat, 0 ≤ cntF p k ∧ cntF p k ≤ k
  | 0 => by simp [cntF]
  | k + 1 => by
    have ih := cntF_bd p k
    simp only [cntF]
    split <;> omega
theorem fin_nb : cntF bareB 256 = 64 := by decide +kernel
theorem fin_nk : cntF keyB 256 = 66 := by decide +kernel
theorem fin_nt : cntF tokB 256 = 77 := by decide +kernel
theorem fin_first : firstF 256 = 45 := by decide +kernel
theorem fin_last : lastF 256 = 122 := by decide +kernel
theorem key_of_bare (n : Int) (h : bareB n = true) : keyB n = true := by simp [keyB, h]
theorem tok_of_bare (n : Int) (h : bareB n = true) : tokB n = true := by simp [tokB, h]

def one (n : Int) : ByteArray := strOfNums [n]
theorem one_size (n : Int) : (one n).size = 1 := strOfNums_size [n]
theorem one_at (n : Int) (h0 : 0 ≤ n) (h1 : n < 256) : (((one n)[0]'(by rw [one_size]; omega)).toNat : Int) = n := by
  show (((UInt8.ofNat n.toNat).toNat : Nat) : Int) = n
  simp
  omega
theorem one_run (n : Int) (w : World) :
    (convert 23 9 (.slice (some ⟨w.heap.size, 0, none⟩) 1 1)).run Try.prog (w.alloc (.cells #[.int .u8 n] 5)) = .ok (.string (one n)) (w.alloc (.cells #[.int .u8 n] 5)) := by
  refine run_convert_bytes_arg _ 23 5 Try.underlying23 Try.underlying5 _ 0 1 1 [n] rfl ?_ 9 Try.underlying9
  intro i hi
  obtain rfl : i = 0 := by omega
  go_simp

set_option maxHeartbeats 1000000 in
set_option maxRecDepth 100000 in
theorem zztoken_one (n : Int) (w : World) (h0 : 0 ≤ n) (h1 : n < 256) :
    Calls Try.prog 8 #[.string (one n)] w fun e w' => e = .returned (.bool (tokB n)) ∧ ∃ n, w' = w.drewN n := by
  obtain ⟨s, hs, hz, hc⟩ : ∃ s : ByteArray, one n = s ∧ ∃ hz : s.size = 1, ((s[0]'(by omega)).toNat : Int) = n := ⟨_, rfl, one_size n, one_at n h0 h1⟩
  rw [hs]
  clear hs
  go_enter Try.func8, Try.ntmps8
  go_wp2_with (go_at_call 14; refine (token_one s n _ h0 h1 hz hc).mono ?_; rintro e w' ⟨rfl, hn⟩)
  go_ret
  exact ⟨rfl, hn⟩

theorem vint {k : IntKind} {a b : Int} (h : a = b) : Value.int k a = .int k b := by rw [h]
theorem grown_drewN {w w' : World} (h : Grown w w') : ∀ n, Grown w (w'.drewN n)
  | 0 => h
  | n + 1 => by rw [show w'.drewN (n + 1) = (w'.drewN n).drew from rfl]; exact Grown.drew (grown_drewN h n)
theorem grow1 {w w' : World} {n : Int} {q : Nat} (h : Grown w w') : Grown w ((w'.alloc (.cells #[.int .u8 n] 5)).drewN q) :=
  grown_drewN (Grown.alloc h _ _) q

set_option maxHeartbeats 1000000 in
set_option maxRecDepth 100000 in
theorem walk0 (w : World) :
    Calls Try.prog 4 #[] w fun e w' => e = .returned (.bool true) ∧ Grown w w' := by
  go_enter Try.func4, Try.ntmps4
  go_wp2_with fail
  go_loopw [1, 2, 3, 4, 5, 6] (fun nb nk nt fi la i wr => ∃ k : Nat, k ≤ 256 ∧ i = .int .i64 k ∧ nb = .int .i64 (cntF bareB k) ∧ nk = .int .i64 (cntF keyB k) ∧ nt = .int .i64 (cntF tokB k) ∧ fi = .int .i64 (firstF k) ∧ la = .int .i64 (lastF k) ∧ Grown w wr) (fun _ _ _ _ _ i _ => 256 - (intOf i).toNat)
  case atStart => exact ⟨0, by omega, rfl, rfl, rfl, rfl, rfl, rfl, Grown.refl _⟩
  case round =>
    obtain ⟨k, hk, rfl, rfl, rfl, rfl, rfl, rfl, hg⟩ := hrel
    have b1 := cntF_bd bareB k
    have b2 := cntF_bd keyB k
    have b3 := cntF_bd tokB k
    obtain ⟨b1a, b1b⟩ := b1
    obtain ⟨b2a, b2b⟩ := b2
    obtain ⟨b3a, b3b⟩ := b3
    by_cases hlt : k < 256
    · have S1 : Hid (cntF bareB (k + 1) = if bareB k then cntF bareB k + 1 else cntF bareB k) := rfl
      have S2 : Hid (cntF keyB (k + 1) = if keyB k then cntF keyB k + 1 else cntF keyB k) := rfl
      have S3 : Hid (cntF tokB (k + 1) = if tokB k then cntF tokB k + 1 else cntF tokB k) := rfl
      have S4 : Hid (firstF (k + 1) = if bareB k && decide (firstF k < 0) then (k : Int) else firstF k) := rfl
      have S5 : Hid (lastF (k + 1) = if bareB k then (k : Int) else lastF k) := rfl
      have h1 := one_run
      cases hb : bareB k
      · rw [hb] at S1 S4 S5
        cases hkey : keyB k
        · rw [hkey] at S2
          cases htok : tokB k
          all_goals
            rw [htok] at S3
            go_wp2_with (first | (go_at_call 6; refine (zzbare_any _ _).mono ?_; rintro e w' ⟨rfl, rfl⟩) | (go_at_call 7; refine (zzkey_any _ _).mono ?_; rintro e w' ⟨rfl, rfl⟩) | (go_at_call 8; refine (zztoken_one _ _ (by omega) (by omega)).mono ?_; rintro e w' ⟨rfl, nq, rfl⟩))
            refine ⟨⟨k + 1, by omega, vint (by omega), vint S1.out.symm, vint S2.out.symm, vint S3.out.symm, vint S4.out.symm, vint S5.out.symm, ?_⟩, by simp [intOf]; omega⟩
            exact grow1 hg
        · rw [hkey] at S2
          have hq : k = 34 ∨ k = 39 := by
            have h := of_decide_eq_true hkey
            rw [hb] at h
            simp at h
            omega
          rcases hq with hq | hq
          · have hq1 : (((k : Int)) != 34) = false := by rw [hq]; rfl
            have hq2 : ((k : Int)) = 34 := by omega
            have ht : tokB k = false := by rw [hq2]; decide +kernel
            rw [ht] at S3
            have HQ : Hid (((k : Int)) = 34) := hq2
            clear hq hq2
            go_wp2_with (first | (go_at_call 6; refine (zzbare_any _ _).mono ?_; rintro e w' ⟨rfl, rfl⟩) | (go_at_call 7; refine (zzkey_any _ _).mono ?_; rintro e w' ⟨rfl, rfl⟩) | (go_at_call 8; refine (zztoken_one _ _ (by omega) (by omega)).mono ?_; rintro e w' ⟨rfl, nq, rfl⟩))
            refine ⟨⟨k + 1, by omega, vint (by omega), vint S1.out.symm, vint S2.out.symm, vint S3.out.symm, vint S4.out.symm, vint S5.out.symm, ?_⟩, by simp [intOf]; omega⟩
            exact grow1 hg
          · have hq1 : (((k : Int)) != 34) = true := by rw [hq]; rfl
            have hq1' : (((k : Int)) != 39) = false := by rw [hq]; rfl
            have hq2 : ((k : Int)) = 39 := by omega
            have ht : tokB k = true := by rw [hq2]; decide +kernel
            rw [ht] at S3
            have HQ : Hid (((k : Int)) = 39) := hq2
            clear hq hq2
            go_wp2_with (first | (go_at_call 6; refine (zzbare_any _ _).mono ?_; rintro e w' ⟨rfl, rfl⟩) | (go_at_call 7; refine (zzkey_any _ _).mono ?_; rintro e w' ⟨rfl, rfl⟩) | (go_at_call 8; refine (zztoken_one _ _ (by omega) (by omega)).mono ?_; rintro e w' ⟨rfl, nq, rfl⟩))
            refine ⟨⟨k + 1, by omega, vint (by omega), vint S1.out.symm, vint S2.out.symm, vint S3.out.symm, vint S4.out.symm, vint S5.out.symm, ?_⟩, by simp [intOf]; omega⟩
            exact grow1 hg
      · rw [hb] at S1 S4 S5
        have hkey := key_of_bare k hb
        have htok := tok_of_bare k hb
        rw [hkey] at S2
        rw [htok] at S3
        by_cases hf : firstF k < 0
        · rw [decide_eq_true hf] at S4
          go_wp2_with (first | (go_at_call 6; refine (zzbare_any _ _).mono ?_; rintro e w' ⟨rfl, rfl⟩) | (go_at_call 7; refine (zzkey_any _ _).mono ?_; rintro e w' ⟨rfl, rfl⟩) | (go_at_call 8; refine (zztoken_one _ _ (by omega) (by omega)).mono ?_; rintro e w' ⟨rfl, nq, rfl⟩))
          refine ⟨⟨k + 1, by omega, vint (by omega), vint S1.out.symm, vint S2.out.symm, vint S3.out.symm, vint S4.out.symm, vint S5.out.symm, ?_⟩, by simp [intOf]; omega⟩
          exact grow1 hg
        · rw [decide_eq_false hf] at S4
          go_wp2_with (first | (go_at_call 6; refine (zzbare_any _ _).mono ?_; rintro e w' ⟨rfl, rfl⟩) | (go_at_call 7; refine (zzkey_any _ _).mono ?_; rintro e w' ⟨rfl, rfl⟩) | (go_at_call 8; refine (zztoken_one _ _ (by omega) (by omega)).mono ?_; rintro e w' ⟨rfl, nq, rfl⟩))
          refine ⟨⟨k + 1, by omega, vint (by omega), vint S1.out.symm, vint S2.out.symm, vint S3.out.symm, vint S4.out.symm, vint S5.out.symm, ?_⟩, by simp [intOf]; omega⟩
          exact grow1 hg
    · obtain rfl : k = 256 := by omega
      rw [fin_nb, fin_nk, fin_nt, fin_first, fin_last]
      go_wp2_with fail
      go_ret
      exact ⟨rfl, hg⟩
end Go.Proofs.Qxb6613975a.leaves
