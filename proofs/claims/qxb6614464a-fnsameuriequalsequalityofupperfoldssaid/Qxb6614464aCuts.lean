import Derived.Test.Qxb6614464aUpper
import Derived.Lib.LastIndexByte
namespace Go.Proofs.Qxb6614464a.leaves
open Go.RowKit
open plain (low up isC isE isA lastA hasSl reg inR mapR upper)

theorem indexByte_find (c : UInt8) (p : UInt8 → Bool) (hp : ∀ b, (b == c) = p b) : ∀ l : List UInt8, Lib.indexByte l c = if l.findIdx p < l.length then ((l.findIdx p : Nat) : Int) else -1
  | [] => rfl
  | b :: l => by
    have ih := indexByte_find c p hp l
    rw [Lib.indexByte, hp b, List.findIdx_cons, List.length_cons, ih]
    cases h : p b
    · simp only [Bool.false_eq_true, if_false, cond_false, Nat.add_lt_add_iff_right]
      by_cases h2 : l.findIdx p < l.length
      · rw [if_pos h2, if_neg (by rw [beq_iff_eq]; omega), if_pos h2]; omega
      · rw [if_neg h2, if_pos (by simp), if_neg h2]
    · simp

theorem indexAny_find (chars : List UInt8) (p : UInt8 → Bool) (hp : ∀ b, chars.contains b = p b) : ∀ l : List UInt8, Lib.indexAny l chars = if l.findIdx p < l.length then ((l.findIdx p : Nat) : Int) else -1
  | [] => rfl
  | b :: l => by
    have ih := indexAny_find chars p hp l
    rw [Lib.indexAny, hp b, List.findIdx_cons, List.length_cons, ih]
    cases h : p b
    · simp only [Bool.false_eq_true, if_false, cond_false, Nat.add_lt_add_iff_right]
      by_cases h2 : l.findIdx p < l.length
      · rw [if_pos h2, if_neg (by rw [beq_iff_eq]; omega), if_pos h2]; omega
      · rw [if_neg h2, if_pos (by simp), if_neg h2]
    · simp

theorem lastIdx_A (s : ByteArray) : ∀ k : Nat, k ≤ s.size → Lib.lastIdx s 64 k + 1 = ((lastA (s.data.toList.take k) : Nat) : Int)
  | 0, _ => by simp [Lib.lastIdx, plain.lastA_nil]
  | k + 1, h => by
    have ih := lastIdx_A s k (by omega)
    have hl : k < s.data.toList.length := by rw [← Lib.size_eq]; omega
    have hb : (((s.data[k]!).toNat : Int) = 64) ↔ isA s.data.toList[k] = true := by
      have e : s.data[k]! = s.data.toList[k] := by
        have hk : k < s.data.size := h
        rw [getElem!_pos s.data k hk]
        rfl
      rw [e]
      unfold isA
      rw [show ((64 : UInt8)) = UInt8.ofNat 64 from rfl, ← u8_eq _ 64 (by omega), beq_iff_eq]
      exact Iff.rfl
    rw [lastA_take _ _ hl, Lib.lastIdx]
    by_cases hc : isA s.data.toList[k] = true
    · rw [if_pos (hb.2 hc), if_pos hc]; omega
    · rw [if_neg (fun x => hc (hb.1 x)), if_neg hc]; exact ih

theorem lastIndexByte_A (s : ByteArray) : Lib.lastIndexByte s 64 = ((lastA s.data.toList : Nat) : Int) - 1 := by
  have h := lastIdx_A s s.size (Nat.le_refl _)
  rw [List.take_of_length_le (by rw [← Lib.size_eq]; exact Nat.le_refl _)] at h
  unfold Lib.lastIndexByte
  omega

theorem isC_eq (b : UInt8) : (b == 58) = isC b := rfl
def chars3 : ByteArray := ⟨#[47, 63, 35]⟩
theorem chars3_isE (b : UInt8) : chars3.data.toList.contains b = isE b := plain.all_bytes (p := fun b => chars3.data.toList.contains b = isE b) (by decide +kernel) b
theorem chars3_ascii : ∀ b ∈ chars3.data.toList, b.toNat < 128 := by decide

set_option maxHeartbeats 1000000 in
set_option maxRecDepth 100000 in
theorem cut_hit0 (s : ByteArray) (i : Nat) (w : World) (hs : s.size ≤ 1048576) (hi : s.data.toList.findIdx isC = i) (hlt : i < s.size) :
    Calls Try.prog 25 #[.string s, .string ⟨#[58]⟩] w fun e w' => e = .returned (.tuple #[.string (s.extract 0 i), .string (s.extract (i + 1) s.size), .bool true]) ∧ ∃ n, w' = w.drewN n := by
  have hix : Lib.indexByte s.data.toList 58 = (i : Int) := by
    rw [indexByte_find 58 isC isC_eq, hi, if_pos (by rw [← Lib.size_eq]; exact hlt)]
  have HI : Hid (∀ w, Calls Try.prog 32 #[.string s, .string ⟨#[58]⟩] w fun e w' => e = .returned (.int .i64 i) ∧ w' = w) := by
    intro w
    have h := Try.stringslite_Index_one s 58 w
    rw [hix] at h
    exact h
  clear hix hi
  have h1 : (0 : Int) ≤ (i : Int) := by omega
  have h2 : (i : Int) ≤ (s.size : Int) := by omega
  have h3 : (i : Int) + 1 ≤ (s.size : Int) := by omega
  go_enter Try.func25, Try.ntmps25
  go_wp2_with (go_at_call 32; refine (HI.out _).mono ?_; rintro e w' ⟨rfl, hw⟩; rw [hw])
  go_quiet (fail)
  go_wp2_with fail
  go_ret3
  exact ⟨rfl, _, rfl⟩

set_option maxHeartbeats 1000000 in
set_option maxRecDepth 100000 in
theorem cut_hit (s : ByteArray) (i : Nat) (w : World) (hs : s.size ≤ 1048576) (hi : s.data.toList.findIdx isC = i) (hlt : i < s.size) :
    Calls Try.prog 20 #[.string s, .string ⟨#[58]⟩] w fun e w' => e = .returned (.tuple #[.string (s.extract 0 i), .string (s.extract (i + 1) s.size), .bool true]) ∧ ∃ n, w' = w.drewN n := by
  have HI := cut_hit0 s i w hs hi hlt
  have HJ : Hid (Calls Try.prog 25 #[.string s, .string ⟨#[58]⟩] w fun e w' => e = .returned (.tuple #[.string (s.extract 0 i), .string (s.extract (i + 1) s.size), .bool true]) ∧ ∃ n, w' = w.drewN n) := HI
  clear HI hi
  go_enter Try.func20, Try.ntmps20
  go_wp2_with (go_at_call 25; refine HJ.out.mono ?_; rintro e w' ⟨rfl, hw⟩)
  go_ret3
  exact ⟨rfl, hw⟩

set_option maxHeartbeats 1000000 in
set_option maxRecDepth 100000 in
theorem cut_miss0 (s : ByteArray) (w : World) (hi : ¬ s.data.toList.findIdx isC < s.size) :
    Calls Try.prog 25 #[.string s, .string ⟨#[58]⟩] w fun e w' => e = .returned (.tuple #[.string s, .string ⟨#[]⟩, .bool false]) ∧ w' = w := by
  have hix : Lib.indexByte s.data.toList 58 = -1 := by
    rw [indexByte_find 58 isC isC_eq, if_neg (by rw [← Lib.size_eq]; exact hi)]
  have HI : Hid (∀ w, Calls Try.prog 32 #[.string s, .string ⟨#[58]⟩] w fun e w' => e = .returned (.int .i64 (-1)) ∧ w' = w) := by
    intro w
    have h := Try.stringslite_Index_one s 58 w
    rw [hix] at h
    exact h
  clear hix hi
  go_enter Try.func25, Try.ntmps25
  go_wp2_with (go_at_call 32; refine (HI.out _).mono ?_; rintro e w' ⟨rfl, hw⟩; rw [hw])
  go_ret3
  exact ⟨rfl, rfl⟩

set_option maxHeartbeats 1000000 in
set_option maxRecDepth 100000 in
theorem cut_miss (s : ByteArray) (w : World) (hi : ¬ s.data.toList.findIdx isC < s.size) :
    Calls Try.prog 20 #[.string s, .string ⟨#[58]⟩] w fun e w' => e = .returned (.tuple #[.string s, .string ⟨#[]⟩, .bool false]) ∧ w' = w := by
  have HJ : Hid (Calls Try.prog 25 #[.string s, .string ⟨#[58]⟩] w fun e w' => e = .returned (.tuple #[.string s, .string ⟨#[]⟩, .bool false]) ∧ w' = w) := cut_miss0 s w hi
  clear hi
  go_enter Try.func20, Try.ntmps20
  go_wp2_with (go_at_call 25; refine HJ.out.mono ?_; rintro e w' ⟨rfl, hw⟩)
  go_ret3
  exact ⟨rfl, rfl⟩

/-- does s begin with '//'? -/
def pre2 (s : ByteArray) : Bool := hasSl (0 :: s.data.toList) 0

theorem pre2_short (s : ByteArray) (h : ¬ 2 ≤ s.size) : pre2 s = false := by
  have h1 : ¬ 1 < s.data.toList.length := by rw [← Lib.size_eq]; omega
  unfold pre2 hasSl
  simp only [List.getElem?_cons_succ, Nat.zero_add]
  rw [List.getElem?_eq_none (by omega : s.data.toList.length ≤ 1)]
  simp

theorem pre2_long (s : ByteArray) (h : 2 ≤ s.size) : ((s.extract 0 2).toList == [47, 47]) = pre2 s := by
  obtain ⟨l, hl⟩ : ∃ l, s.data.toList = l := ⟨_, rfl⟩
  have hz : l.length = s.size := by rw [← hl]; exact (Lib.size_eq s).symm
  have e1 : (s.extract 0 2).toList = l.take 2 := by
    rw [Lib.toList_data, ByteArray.data_extract, Array.toList_extract, hl]
    simp
  unfold pre2 hasSl
  rw [hl, e1]
  match l, hz with
  | [], hz => simp at hz; omega
  | [_], hz => simp at hz; omega
  | a :: b :: r, _ => simp

set_option maxHeartbeats 1000000 in
set_option maxRecDepth 100000 in
theorem hasPrefix_any (s : ByteArray) (w : World) :
    Calls Try.prog 33 #[.string s, .string ⟨#[47, 47]⟩] w fun e w' => e = .returned (.bool (pre2 s)) ∧ w' = w := by
  by_cases h : 2 ≤ s.size
  · have HP : Hid (((s.extract 0 2).toList == [47, 47]) = pre2 s) := pre2_long s h
    have h1 : (2 : Int) ≤ (s.size : Int) := by omega
    go_enter Try.func33, Try.ntmps33
    go_wp2_with fail
    go_ret
    exact ⟨ret_bool HP.out, rfl⟩
  · have h1 : ¬ (2 : Int) ≤ (s.size : Int) := by omega
    have HP : Hid (pre2 s = false) := pre2_short s h
    go_enter Try.func33, Try.ntmps33
    go_wp2_with fail
    go_ret
    exact ⟨ret_bool HP.out.symm, rfl⟩

theorem pre2_size (s : ByteArray) (h : pre2 s = true) : 2 ≤ s.size := by
  by_cases h2 : 2 ≤ s.size
  · exact h2
  · rw [pre2_short s h2] at h
    cases h

set_option maxHeartbeats 1000000 in
set_option maxRecDepth 100000 in
theorem cutPrefix_hit (s : ByteArray) (w : World) (h : pre2 s = true) :
    Calls Try.prog 21 #[.string s, .string ⟨#[47, 47]⟩] w fun e w' => e = .returned (.tuple #[.string (s.extract 2 s.size), .bool true]) ∧ w' = w := by
  have hz := pre2_size s h
  have h1 : (2 : Int) ≤ (s.size : Int) := by omega
  go_enter Try.func21, Try.ntmps21
  go_wp2_with (first | (go_at_call 33; refine (hasPrefix_any _ _).mono ?_; rintro e w' ⟨rfl, hw⟩; rw [hw, h]) | go_in)
  go_ret2
  exact ⟨rfl, rfl⟩

set_option maxHeartbeats 1000000 in
set_option maxRecDepth 100000 in
theorem cutPrefix_miss (s : ByteArray) (w : World) (h : pre2 s = false) :
    Calls Try.prog 21 #[.string s, .string ⟨#[47, 47]⟩] w fun e w' => e = .returned (.tuple #[.string s, .bool false]) ∧ w' = w := by
  go_enter Try.func21, Try.ntmps21
  go_wp2_with (first | (go_at_call 33; refine (hasPrefix_any _ _).mono ?_; rintro e w' ⟨rfl, hw⟩; rw [hw, h]) | go_in)
  go_ret2
  exact ⟨rfl, rfl⟩

theorem zero44 (w : World) : (zeroValue 44).run Try.prog w = .ok (.agg (Array.replicate 256 (.bool false))) w := by kernel_rfl

theorem indexAny3 (s : ByteArray) (w : World) (hs : s.size ≤ 1048576) :
    Calls Try.prog 23 #[.string s, .string ⟨#[47, 63, 35]⟩] w fun e w' => e = .returned (.int .i64 (if s.data.toList.findIdx isE < s.size then ((s.data.toList.findIdx isE : Nat) : Int) else -1)) ∧ Below w.heap.size w w' := by
  have he : Lib.indexAny s.data.toList chars3.data.toList = if s.data.toList.findIdx isE < s.size then ((s.data.toList.findIdx isE : Nat) : Int) else -1 := by
    rw [indexAny_find _ _ chars3_isE, ← Lib.size_eq]
  rw [← he]
  by_cases h8 : s.size ≤ 8
  · exact indexAny_short s chars3 w rfl h8 chars3_ascii
  · refine (Try.strings_IndexAny_long zero44 s chars3 w (by decide) (by omega) (by omega) (by decide) ?_).mono ?_
    · intro j b hj
      exact chars3_ascii b (List.mem_of_getElem? hj)
    · rintro e w' ⟨h1, h2⟩
      refine ⟨h1, ?_⟩
      rw [h2]
      exact ((Below.refl _ _).alloc (Nat.le_refl _) _).alloc (by simp) _
end Go.Proofs.Qxb6614464a.leaves
