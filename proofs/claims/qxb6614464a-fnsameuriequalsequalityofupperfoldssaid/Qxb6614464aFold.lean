import Derived.Test.Qxb6614464aCuts
import Derived.Deep.RegionWith
namespace Go.Proofs.Qxb6614464a.leaves
open Go.RowKit
open plain (low up isC isE isA lastA hasSl reg inR mapR upper fold)

theorem ext_list (s : ByteArray) (a b : Nat) : (s.extract a b).data.toList = (s.data.toList.drop a).take (b - a) := by
  rw [ByteArray.data_extract, Array.toList_extract, List.extract_eq_take_drop]
theorem ext_size (s : ByteArray) (a b : Nat) (h : b ≤ s.size) : (s.extract a b).size = b - a := by
  rw [Lib.size_eq, ext_list, List.length_take, List.length_drop, ← Lib.size_eq]
  omega
theorem str_eq {F : ByteArray} {l : List UInt8} (h : F.data.toList = l) : Ending.returned (.string F) = .returned (.string ⟨l.toArray⟩) := by
  subst h
  cases F
  simp

theorem app_list (a b : ByteArray) : (a ++ b).data.toList = a.data.toList ++ b.data.toList := by
  rw [ByteArray.data_append, Array.toList_append]

theorem lower_ex (s : ByteArray) (w : World) (hs : s.size ≤ 1048576) :
    Calls Try.prog 22 #[.string s] w fun e w' => ∃ L : ByteArray, e = .returned (.string L) ∧ L.data.toList = s.data.toList.map low ∧ L.size = s.size ∧ Below w.heap.size w w' :=
  (lower_any s w hs).mono fun e w' ⟨h1, h2⟩ => ⟨_, h1, by simp, by rw [Lib.size_eq, Lib.size_eq]; simp, h2⟩

set_option maxHeartbeats 1000000 in
set_option maxRecDepth 100000 in
theorem fold_none (s : ByteArray) (w : World) (hi : ¬ s.data.toList.findIdx isC < s.size) :
    Calls Try.prog 19 #[.string s] w fun e w' => e = .returned (.string ⟨(fold s.data.toList).toArray⟩) ∧ Below w.heap.size w w' := by
  have HF : Hid (s.data.toList = fold s.data.toList) := (plain.fold_none _ (by rw [← Lib.size_eq]; exact hi)).symm
  have HC : Hid (Calls Try.prog 20 #[.string s, .string ⟨#[58]⟩] w fun e w' => e = .returned (.tuple #[.string s, .string ⟨#[]⟩, .bool false]) ∧ w' = w) := cut_miss s w hi
  clear hi
  go_enter Try.func19, Try.ntmps19
  go_wp2_with (go_at_call 20; refine HC.out.mono ?_; rintro e w' ⟨rfl, hw⟩; rw [hw])
  go_ret
  exact ⟨str_eq HF.out, Below.refl _ _⟩

theorem pre2_rest (s : ByteArray) (c : Nat) : pre2 (s.extract (c + 1) s.size) = hasSl s.data.toList c := by
  unfold pre2 hasSl
  rw [ext_list, List.take_of_length_le (by rw [List.length_drop, ← Lib.size_eq]; exact Nat.le_refl _)]
  simp only [List.getElem?_cons_succ, Nat.zero_add, List.getElem?_drop, Nat.add_zero]

set_option maxHeartbeats 1000000 in
set_option maxRecDepth 100000 in
theorem fold_short (s : ByteArray) (c : Nat) (w : World) (hs : s.size ≤ 1048576) (hi : s.data.toList.findIdx isC = c) (hlt : c < s.size) (hsl : hasSl s.data.toList c = false) :
    Calls Try.prog 19 #[.string s] w fun e w' => e = .returned (.string ⟨(fold s.data.toList).toArray⟩) ∧ Below w.heap.size w w' := by
  have hf := plain.fold_short s.data.toList (by rw [hi, ← Lib.size_eq]; exact hlt) (by rw [hi]; exact hsl)
  rw [hi] at hf
  have hz1 := ext_size s 0 c (by omega)
  have hz2 := ext_size s (c + 1) s.size (Nat.le_refl _)
  have hl1 : (s.extract 0 c).data.toList = s.data.toList.take c := by rw [ext_list]; simp
  have hl2 : (s.extract (c + 1) s.size).data.toList = s.data.toList.drop (c + 1) := by
    rw [ext_list, List.take_of_length_le (by rw [List.length_drop, ← Lib.size_eq]; exact Nat.le_refl _)]
  have hp : pre2 (s.extract (c + 1) s.size) = false := by rw [pre2_rest s c]; exact hsl
  have HC : Hid (Calls Try.prog 20 #[.string s, .string ⟨#[58]⟩] w fun e w' => e = .returned (.tuple #[.string (s.extract 0 c), .string (s.extract (c + 1) s.size), .bool true]) ∧ ∃ n, w' = w.drewN n) := cut_hit s c w hs hi hlt
  rw [← hl1, ← hl2] at hf
  generalize s.extract 0 c = A at *
  generalize s.extract (c + 1) s.size = R at *
  have HF : Hid (fold s.data.toList = A.data.toList.map low ++ ([58] ++ R.data.toList)) := hf
  have HP : Hid (pre2 R = false) := hp
  have hA : A.size ≤ 1048576 := by omega
  have hR : R.size ≤ 1048576 := by omega
  clear hf hp hl1 hl2 hi hsl hz1 hz2
  go_enter Try.func19, Try.ntmps19
  go_wp2_with (first
    | (go_at_call 20; refine HC.out.mono ?_; rintro e w' ⟨rfl, n, hw⟩; rw [hw])
    | (go_at_call 21; refine (cutPrefix_miss R _ HP.out).mono ?_; rintro e w' ⟨rfl, hw⟩; rw [hw])
    | (go_at_call 22; refine (lower_ex A _ hA).mono ?_; rintro e w' ⟨L, rfl, hL, hLs, hb⟩; have HL : Hid (L.data.toList = A.data.toList.map low) := hL; clear hL; have hLz : L.size ≤ 1048576 := by omega))
  go_ret
  refine ⟨str_eq ?_, ?_⟩
  · rw [HF.out, app_list, app_list, HL.out, List.append_assoc]
  · exact (below_drewN' w n).trans hb

theorem cat_close {A X Y V U L1 L2 : ByteArray} {h : Nat} {f : List UInt8} (hf : f = A.data.toList.map low ++ ([58, 47, 47] ++ (U.data.toList.take h ++ ((U.data.toList.drop h).map low ++ V.data.toList))))
    (h1 : L1.data.toList = A.data.toList.map low) (h2 : L2.data.toList = X.data.toList.map low) (hX : X.data.toList = U.data.toList.drop h) (hY : Y.data.toList = U.data.toList.take h) :
    (L1 ++ (⟨#[58, 47, 47]⟩ : ByteArray) ++ Y ++ L2 ++ V).data.toList = f := by
  rw [app_list, app_list, app_list, app_list, h1, h2, hX, hY, hf]
  simp only [List.append_assoc]
theorem below4 {w w1 w2 w3 : World} {n m : Nat} (h1 : Below (w.drewN n).heap.size (w.drewN n) w1) (h2 : Below (w1.drewN m).heap.size (w1.drewN m) w2) (h3 : Below w2.heap.size w2 w3) : Below w.heap.size w w3 := by
  have a1 : Below w.heap.size w w1 := (below_drewN' w n).trans h1
  have a2 : Below w.heap.size w w2 := a1.trans (((below_drewN' w1 m).trans h2).mono a1.size)
  exact a2.trans (h3.mono a2.size)

set_option maxHeartbeats 4000000 in
set_option maxRecDepth 100000 in
theorem fold_long1 (s A R T U V : ByteArray) (e h : Nat) (w : World)
    (HC : Hid (Calls Try.prog 20 #[.string s, .string ⟨#[58]⟩] w fun e w' => e = .returned (.tuple #[.string A, .string R, .bool true]) ∧ ∃ n, w' = w.drewN n))
    (hA : A.size ≤ 1048576) (HP : Hid (pre2 R = true)) (HT : Hid (R.extract 2 R.size = T)) (hT : T.size ≤ 1048576)
    (HE : Hid (T.data.toList.findIdx isE = e)) (he : (e : Int) < T.size) (HU : Hid (T.extract 0 e = U)) (hU : U.size = e) (HV : Hid (T.extract e T.size = V)) (hV : V.size ≤ 1048576)
    (HH : Hid (lastA U.data.toList = h)) (hh : (h : Int) ≤ e)
    (HF : Hid (fold s.data.toList = A.data.toList.map low ++ ([58, 47, 47] ++ (U.data.toList.take h ++ ((U.data.toList.drop h).map low ++ V.data.toList))))) :
    Calls Try.prog 19 #[.string s] w fun e w' => e = .returned (.string ⟨(fold s.data.toList).toArray⟩) ∧ Below w.heap.size w w' := by
  have HL1 : Hid (∀ w, Calls Try.prog 24 #[.string U, .int .u8 64] w fun e w' => e = .returned (.int .i64 ((h : Int) - 1)) ∧ w' = w) := by
    intro w
    have q := Try.strings_LastIndexByte U 64 (by omega) w
    rw [lastIndexByte_A, HH.out] at q
    exact q
  have HA1 : Hid (∀ w, Calls Try.prog 23 #[.string T, .string ⟨#[47, 63, 35]⟩] w fun e' w' => e' = .returned (.int .i64 e) ∧ Below w.heap.size w w') := by
    intro w
    have q := indexAny3 T w hT
    rw [HE.out, if_pos (by omega)] at q
    exact q
  have HCP : Hid (∀ w, Calls Try.prog 21 #[.string R, .string ⟨#[47, 47]⟩] w fun e w' => e = .returned (.tuple #[.string T, .bool true]) ∧ w' = w) := by
    intro w
    have q := cutPrefix_hit R w HP.out
    rw [HT.out] at q
    exact q
  have hT' : (T.size : Int) ≤ 1048576 := by omega
  go_enter Try.func19, Try.ntmps19
  go_wp2_with (first
    | (go_at_call 20; refine HC.out.mono ?_; rintro e w' ⟨rfl, n, hw⟩; rw [hw])
    | (go_at_call 21; refine (HCP.out _).mono ?_; rintro e w' ⟨rfl, hw⟩; rw [hw])
    | (go_at_call 23; refine (HA1.out _).mono ?_; rintro e w1 ⟨rfl, hb1⟩))
  have hU1 := HU.out
  have hV1 := HV.out
  have hez : (e : Int) ≤ (T.size : Int) := by omega
  go_quiet (fail)
  go_wp2_with (first
    | (go_at_call 24; refine (HL1.out _).mono ?_; rintro e w' ⟨rfl, hw⟩; rw [hw]))
  obtain ⟨X, hX1⟩ : ∃ X, U.extract h e = X := ⟨_, rfl⟩
  obtain ⟨Y, hY1⟩ : ∃ Y, U.extract 0 h = Y := ⟨_, rfl⟩
  have hXz : X.size ≤ 1048576 := by rw [← hX1, ext_size U h e (by omega)]; omega
  have hYz : Y.size ≤ 1048576 := by rw [← hY1, ext_size U 0 h (by omega)]; omega
  have hhu : (h : Int) ≤ (U.size : Int) := by omega
  have HX : Hid (X.data.toList = U.data.toList.drop h) := by
    show X.data.toList = _
    rw [← hX1, ext_list, List.take_of_length_le (by rw [List.length_drop, ← Lib.size_eq, hU]; exact Nat.le_refl _)]
  have HY : Hid (Y.data.toList = U.data.toList.take h) := by
    show Y.data.toList = _
    rw [← hY1, ext_list, List.drop_zero, Nat.sub_zero]
  go_region_with (go_at_call 22; refine (lower_ex _ _ (by omega)).mono ?_; rintro e w' ⟨L, rfl, hL, hLs, hb⟩)
  all_goals (go_wp2_with fail; go_ret; refine ⟨str_eq ?_, ?_⟩)
  all_goals first
    | exact below4 hb1 (by assumption) hb
    | exact cat_close HF.out (by assumption) (by assumption) HX.out HY.out
set_option maxHeartbeats 4000000 in
set_option maxRecDepth 100000 in
theorem fold_long2 (s A R U : ByteArray) (e h : Nat) (w : World)
    (HC : Hid (Calls Try.prog 20 #[.string s, .string ⟨#[58]⟩] w fun e w' => e = .returned (.tuple #[.string A, .string R, .bool true]) ∧ ∃ n, w' = w.drewN n))
    (hA : A.size ≤ 1048576) (HP : Hid (pre2 R = true)) (HT : Hid (R.extract 2 R.size = U)) (hT : U.size ≤ 1048576)
    (HE : Hid (¬ U.data.toList.findIdx isE < U.size)) (hU : U.size = e)
    (HH : Hid (lastA U.data.toList = h)) (hh : (h : Int) ≤ e)
    (HF : Hid (fold s.data.toList = A.data.toList.map low ++ ([58, 47, 47] ++ (U.data.toList.take h ++ ((U.data.toList.drop h).map low ++ (⟨#[]⟩ : ByteArray).data.toList))))) :
    Calls Try.prog 19 #[.string s] w fun e w' => e = .returned (.string ⟨(fold s.data.toList).toArray⟩) ∧ Below w.heap.size w w' := by
  have HL1 : Hid (∀ w, Calls Try.prog 24 #[.string U, .int .u8 64] w fun e w' => e = .returned (.int .i64 ((h : Int) - 1)) ∧ w' = w) := by
    intro w
    have q := Try.strings_LastIndexByte U 64 (by omega) w
    rw [lastIndexByte_A, HH.out] at q
    exact q
  have HA1 : Hid (∀ w, Calls Try.prog 23 #[.string U, .string ⟨#[47, 63, 35]⟩] w fun e' w' => e' = .returned (.int .i64 (-1)) ∧ Below w.heap.size w w') := by
    intro w
    have q := indexAny3 U w hT
    rw [if_neg HE.out] at q
    exact q
  have HCP : Hid (∀ w, Calls Try.prog 21 #[.string R, .string ⟨#[47, 47]⟩] w fun e w' => e = .returned (.tuple #[.string U, .bool true]) ∧ w' = w) := by
    intro w
    have q := cutPrefix_hit R w HP.out
    rw [HT.out] at q
    exact q
  go_enter Try.func19, Try.ntmps19
  go_wp2_with (first
    | (go_at_call 20; refine HC.out.mono ?_; rintro e w' ⟨rfl, n, hw⟩; rw [hw])
    | (go_at_call 21; refine (HCP.out _).mono ?_; rintro e w' ⟨rfl, hw⟩; rw [hw])
    | (go_at_call 23; refine (HA1.out _).mono ?_; rintro e w1 ⟨rfl, hb1⟩)
    | (go_at_call 24; refine (HL1.out _).mono ?_; rintro e w' ⟨rfl, hw⟩; rw [hw]))
  obtain ⟨X, hX1⟩ : ∃ X, U.extract h e = X := ⟨_, rfl⟩
  obtain ⟨Y, hY1⟩ : ∃ Y, U.extract 0 h = Y := ⟨_, rfl⟩
  have hXz : X.size ≤ 1048576 := by rw [← hX1, ext_size U h e (by omega)]; omega
  have hYz : Y.size ≤ 1048576 := by rw [← hY1, ext_size U 0 h (by omega)]; omega
  have hhu : (h : Int) ≤ (U.size : Int) := by omega
  have HX : Hid (X.data.toList = U.data.toList.drop h) := by
    show X.data.toList = _
    rw [← hX1, ext_list, List.take_of_length_le (by rw [List.length_drop, ← Lib.size_eq, hU]; exact Nat.le_refl _)]
  have HY : Hid (Y.data.toList = U.data.toList.take h) := by
    show Y.data.toList = _
    rw [← hY1, ext_list, List.drop_zero, Nat.sub_zero]
  go_region_with (go_at_call 22; refine (lower_ex _ _ (by omega)).mono ?_; rintro e w' ⟨L, rfl, hL, hLs, hb⟩)
  all_goals (go_wp2_with fail; go_ret; refine ⟨str_eq ?_, ?_⟩)
  all_goals first
    | exact below4 hb1 (by assumption) hb
    | exact cat_close HF.out (by assumption) (by assumption) HX.out HY.out
end Go.Proofs.Qxb6614464a.leaves
