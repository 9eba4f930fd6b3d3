import Derived.Test.Qxb6600528aRows
import Derived.Test.Qxb6600528aPlain
import Derived.WalkKit
import Derived.Laws.Strings3
import Derived.Laws.Externs
import Derived.Lib.Strings
import Derived.Lib.Bytealg
import Derived.Lib.IndexBytes
import Derived.Deep.Draws
import Derived.Deep.QuietTactic
import Derived.BigQuiet
import Derived.Deep.DeepCutAuto
namespace Go.Proofs.Qxb6600528a.leaves
open Go.RowKit
open plain (lv isS hsh plus rel dollar wild relate)

theorem ret_bool {a b : Bool} (h : a = b) : Ending.returned (.bool a) = .returned (.bool b) := by rw [h]
theorem vint {k : IntKind} {a b : Int} (h : a = b) : Value.int k a = .int k b := by rw [h]
theorem below_drewN' (w : World) (n : Nat) : Below w.heap.size w (w.drewN n) := ⟨rfl, rfl, rfl, Nat.le_refl _, fun _ _ => rfl⟩

theorem indexByte_find (c : UInt8) (p : UInt8 → Bool) (hp : ∀ b, (b == c) = p b) : ∀ l : List UInt8, Lib.indexByte l c = if l.findIdx p < l.length then ((l.findIdx p : Nat) : Int) else -1
  | [] => rfl
  | b :: l => by
    have ih := indexByte_find c p hp l
    rw [Lib.indexByte, hp b, List.findIdx_cons, List.length_cons, ih]
    cases h : p b
    · simp only [Bool.false_eq_true, if_false, cond_false, Nat.add_lt_add_iff_right]
      by_cases h2 : l.findIdx p < l.length
      · rw [if_pos h2, if_neg (by rw [beq_iff_eq]; omega), if_pos h2]; omega
      · rw [if_neg h2, if_pos (by simp), if_neg h2]
    · simp

theorem ibs_run (s : ByteArray) (c : Int) (w : World) :
    (callFunc 48 #[.string s, .int .u8 c]).run Try.prog w = .ok (.value (.int .i64 (Lib.indexByte s.data.toList c.toNat.toUInt8))) w := by
  rw [run_callFunc_extern Try.func48 (by kernel_rfl) (by kernel_rfl) (by kernel_rfl) (e := Extern.BytealgIndexByte.indexByte) (by kernel_rfl), Lib.run_indexByteString]
  rfl

set_option maxHeartbeats 1000000 in
set_option maxRecDepth 100000 in
theorem index_any (s : ByteArray) (w : World) :
    Calls Try.prog 47 #[.string s, .string ⟨#[47]⟩] w fun e w' => e = .returned (.int .i64 (Lib.indexByte s.data.toList 47)) ∧ w' = w := by
  have hi := ibs_run
  go_enter Try.func47, Try.ntmps47
  go_wp2
  · have h : ([47] == s.toList) = true := by assumption
    go_ret
    refine ⟨?_, rfl⟩
    have e : s.data.toList = [47] := by rw [← Lib.toList_data]; exact (beq_iff_eq.1 h).symm
    rw [e]
    simp [Lib.indexByte]
  · go_ret
    exact ⟨rfl, rfl⟩

set_option maxHeartbeats 1000000 in
set_option maxRecDepth 100000 in
theorem cut_hit0 (s : ByteArray) (i : Nat) (w : World) (hs : s.size ≤ 1048576) (hi : s.data.toList.findIdx isS = i) (hlt : i < s.size) :
    Calls Try.prog 43 #[.string s, .string ⟨#[47]⟩] w fun e w' => e = .returned (.tuple #[.string (s.extract 0 i), .string (s.extract (i + 1) s.size), .bool true]) ∧ ∃ n, w' = w.drewN n := by
  have hix : Lib.indexByte s.data.toList 47 = (i : Int) := by
    rw [indexByte_find 47 isS (fun _ => rfl), hi, if_pos (by rw [← Lib.size_eq]; exact hlt)]
  have HI : Hid (∀ w, Calls Try.prog 47 #[.string s, .string ⟨#[47]⟩] w fun e w' => e = .returned (.int .i64 i) ∧ w' = w) := by
    intro w
    have h := index_any s w
    rw [hix] at h
    exact h
  clear hix hi
  have h1 : (0 : Int) ≤ (i : Int) := by omega
  have h2 : (i : Int) ≤ (s.size : Int) := by omega
  have h3 : (i : Int) + 1 ≤ (s.size : Int) := by omega
  go_enter Try.func43, Try.ntmps43
  go_wp2_with (go_at_call 47; refine (HI.out _).mono ?_; rintro e w' ⟨rfl, hw⟩; rw [hw])
  go_quiet (fail)
  go_wp2_with fail
  go_ret3
  exact ⟨rfl, _, rfl⟩

set_option maxHeartbeats 1000000 in
set_option maxRecDepth 100000 in
theorem cut_hit (s : ByteArray) (i : Nat) (w : World) (hs : s.size ≤ 1048576) (hi : s.data.toList.findIdx isS = i) (hlt : i < s.size) :
    Calls Try.prog 38 #[.string s, .string ⟨#[47]⟩] w fun e w' => e = .returned (.tuple #[.string (s.extract 0 i), .string (s.extract (i + 1) s.size), .bool true]) ∧ ∃ n, w' = w.drewN n := by
  have HJ : Hid (Calls Try.prog 43 #[.string s, .string ⟨#[47]⟩] w fun e w' => e = .returned (.tuple #[.string (s.extract 0 i), .string (s.extract (i + 1) s.size), .bool true]) ∧ ∃ n, w' = w.drewN n) := cut_hit0 s i w hs hi hlt
  clear hi
  go_enter Try.func38, Try.ntmps38
  go_wp2_with (go_at_call 43; refine HJ.out.mono ?_; rintro e w' ⟨rfl, hw⟩)
  go_ret3
  exact ⟨rfl, hw⟩

set_option maxHeartbeats 1000000 in
set_option maxRecDepth 100000 in
theorem cut_miss0 (s : ByteArray) (w : World) (hi : ¬ s.data.toList.findIdx isS < s.size) :
    Calls Try.prog 43 #[.string s, .string ⟨#[47]⟩] w fun e w' => e = .returned (.tuple #[.string s, .string ⟨#[]⟩, .bool false]) ∧ w' = w := by
  have hix : Lib.indexByte s.data.toList 47 = -1 := by
    rw [indexByte_find 47 isS (fun _ => rfl), if_neg (by rw [← Lib.size_eq]; exact hi)]
  have HI : Hid (∀ w, Calls Try.prog 47 #[.string s, .string ⟨#[47]⟩] w fun e w' => e = .returned (.int .i64 (-1)) ∧ w' = w) := by
    intro w
    have h := index_any s w
    rw [hix] at h
    exact h
  clear hix hi
  go_enter Try.func43, Try.ntmps43
  go_wp2_with (go_at_call 47; refine (HI.out _).mono ?_; rintro e w' ⟨rfl, hw⟩; rw [hw])
  go_ret3
  exact ⟨rfl, rfl⟩

set_option maxHeartbeats 1000000 in
set_option maxRecDepth 100000 in
theorem cut_miss (s : ByteArray) (w : World) (hi : ¬ s.data.toList.findIdx isS < s.size) :
    Calls Try.prog 38 #[.string s, .string ⟨#[47]⟩] w fun e w' => e = .returned (.tuple #[.string s, .string ⟨#[]⟩, .bool false]) ∧ w' = w := by
  have HJ : Hid (Calls Try.prog 43 #[.string s, .string ⟨#[47]⟩] w fun e w' => e = .returned (.tuple #[.string s, .string ⟨#[]⟩, .bool false]) ∧ w' = w) := cut_miss0 s w hi
  clear hi
  go_enter Try.func38, Try.ntmps38
  go_wp2_with (go_at_call 43; refine HJ.out.mono ?_; rintro e w' ⟨rfl, hw⟩; rw [hw])
  go_ret3
  exact ⟨rfl, rfl⟩

/-- does s begin with the byte c? -/
def pre1 (s : ByteArray) (c : UInt8) : Bool := s.data.toList.head? == some c

theorem pre1_long (s : ByteArray) (c : UInt8) (h : 1 ≤ s.size) : ((s.extract 0 1).toList == [c]) = pre1 s c := by
  obtain ⟨l, hl⟩ : ∃ l, s.data.toList = l := ⟨_, rfl⟩
  have hz : l.length = s.size := by rw [← hl]; exact (Lib.size_eq s).symm
  have e1 : (s.extract 0 1).toList = l.take 1 := by
    rw [Lib.toList_data, ByteArray.data_extract, Array.toList_extract, hl]
    simp
  unfold pre1
  rw [hl, e1]
  match l, hz with
  | [], hz => simp at hz; omega
  | a :: r, _ => simp

theorem pre1_short (s : ByteArray) (c : UInt8) (h : ¬ 1 ≤ s.size) : pre1 s c = false := by
  have h1 : s.data.toList = [] := List.length_eq_zero_iff.1 (by rw [← Lib.size_eq]; omega)
  unfold pre1
  rw [h1]
  rfl

set_option maxHeartbeats 1000000 in
set_option maxRecDepth 100000 in
theorem hasPrefix_any (s : ByteArray) (c : UInt8) (w : World) :
    Calls Try.prog 42 #[.string s, .string ⟨#[c]⟩] w fun e w' => e = .returned (.bool (pre1 s c)) ∧ w' = w := by
  by_cases h : 1 ≤ s.size
  · have HP : Hid (((s.extract 0 1).toList == [c]) = pre1 s c) := pre1_long s c h
    have h1 : (1 : Int) ≤ (s.size : Int) := by omega
    go_enter Try.func42, Try.ntmps42
    go_wp2
    go_ret
    exact ⟨ret_bool HP.out, rfl⟩
  · have h1 : ¬ (1 : Int) ≤ (s.size : Int) := by omega
    have HP : Hid (pre1 s c = false) := pre1_short s c h
    go_enter Try.func42, Try.ntmps42
    go_wp2
    go_ret
    exact ⟨ret_bool HP.out.symm, rfl⟩

set_option maxHeartbeats 1000000 in
set_option maxRecDepth 100000 in
theorem dollar_any (s : ByteArray) (w : World) :
    Calls Try.prog 36 #[.string s] w fun e w' => e = .returned (.bool (dollar s.data.toList)) ∧ w' = w := by
  have HP : Hid (pre1 s 36 = dollar s.data.toList) := rfl
  go_enter Try.func36, Try.ntmps36
  go_wp2_with (go_at_call 42; refine (hasPrefix_any s 36 _).mono ?_; rintro e w' ⟨rfl, hw⟩; rw [hw])
  go_ret
  exact ⟨ret_bool HP.out, rfl⟩

set_option maxHeartbeats 1000000 in
set_option maxRecDepth 100000 in
theorem wild_any (s : ByteArray) (w : World) :
    Calls Try.prog 37 #[.string s] w fun e w' => e = .returned (.bool (wild s.data.toList)) ∧ w' = w := by
  have HP : Hid ((pre1 s 43 || pre1 s 35) = wild s.data.toList) := rfl
  cases h : pre1 s 43
  · rw [h] at HP
    go_enter Try.func37, Try.ntmps37
    go_wp2_with fail
    refine (hasPrefix_any s 43 _).mono ?_
    rintro e w' ⟨rfl, hw⟩
    rw [hw, h]
    go_wp2_with fail
    refine (hasPrefix_any s 35 _).mono ?_
    rintro e w' ⟨rfl, hw⟩
    rw [hw]
    go_wp2_with fail
    go_ret
    exact ⟨ret_bool HP.out, rfl⟩
  · rw [h] at HP
    go_enter Try.func37, Try.ntmps37
    go_wp2_with fail
    refine (hasPrefix_any s 43 _).mono ?_
    rintro e w' ⟨rfl, hw⟩
    rw [hw, h]
    go_wp2_with fail
    go_ret
    exact ⟨ret_bool HP.out, rfl⟩

theorem ext_list (s : ByteArray) (a b : Nat) : (s.extract a b).data.toList = (s.data.toList.drop a).take (b - a) := by
  rw [ByteArray.data_extract, Array.toList_extract, List.extract_eq_take_drop]
theorem ext_size (s : ByteArray) (a b : Nat) (h : b ≤ s.size) : (s.extract a b).size = b - a := by
  rw [Lib.size_eq, ext_list, List.length_take, List.length_drop, ← Lib.size_eq]
  omega

theorem cut_ex (s : ByteArray) (w : World) (hs : s.size ≤ 1048576) :
    Calls Try.prog 38 #[.string s, .string ⟨#[47]⟩] w fun e w' => ∃ (A R : ByteArray) (m : Bool), e = .returned (.tuple #[.string A, .string R, .bool m]) ∧
      lv s.data.toList = A.data.toList :: (if m then lv R.data.toList else []) ∧ (m = true → R.size < s.size) ∧ (m = false → R.data.toList = []) ∧ ∃ n, w' = w.drewN n := by
  have hlen : s.data.toList.length = s.size := (Lib.size_eq s).symm
  by_cases hlt : s.data.toList.findIdx isS < s.size
  · refine (cut_hit s _ w hs rfl hlt).mono ?_
    rintro e w' ⟨rfl, hw⟩
    refine ⟨_, _, true, rfl, ?_, fun _ => ?_, (fun h => by cases h), hw⟩
    · have h := plain.lv_hit s.data.toList (by omega)
      have e2 : (s.extract (s.data.toList.findIdx isS + 1) s.size).data.toList = s.data.toList.drop (s.data.toList.findIdx isS + 1) := by
        rw [ext_list, List.take_of_length_le (by rw [List.length_drop, hlen]; exact Nat.le_refl _)]
      rw [e2, ext_list, List.drop_zero, Nat.sub_zero]
      exact h
    · rw [ext_size s _ _ (Nat.le_refl _)]
      omega
  · refine (cut_miss s w hlt).mono ?_
    rintro e w' ⟨rfl, hw⟩
    refine ⟨_, _, false, rfl, ?_, (fun h => by cases h), fun _ => rfl, 0, hw⟩
    exact plain.lv_miss s.data.toList (by omega)

theorem rel_eq (ov top m k : Bool) (a b : List UInt8) (fs gs : List (List UInt8)) (r q : List UInt8) (hm : m = false → r = []) (hk : k = false → q = []) (hf : fs = if m then lv r else []) (hg : gs = if k then lv q else []) :
    rel ov top (a :: fs) (b :: gs) =
      if a == [35] && !m then true
      else if b == [35] && !k then ov || (top && a == [43] && r == [35])
      else if a == b || a == [43] || (ov && b == [43]) then
        if !m then (if !k then true else ov && q == [35]) else (if !k then r == [35] else rel ov false (lv r) (lv q))
      else false := by
  have key : ∀ l : List UInt8, (lv l == [hsh]) = (l == [35]) := by
    intro l
    rw [Bool.eq_iff_iff, beq_iff_eq, beq_iff_eq]
    constructor
    · intro h
      by_cases hlt : l.findIdx isS < l.length
      · rw [plain.lv_hit l hlt] at h
        injection h with h1 h2
        exact absurd h2 (plain.lv_ne _)
      · rw [plain.lv_miss l hlt] at h
        injection h
    · intro h
      subst h
      rfl
  have ne : ∀ l : List UInt8, (lv l).isEmpty = false := by
    intro l
    cases h : lv l with
    | nil => exact absurd h (plain.lv_ne l)
    | cons _ _ => rfl
  subst hf hg
  rw [rel]
  cases m <;> cases k
  · rw [hm rfl]
    simp [hsh, plus]
  · rw [hm rfl]
    have h := key q
    simp only [hsh] at h
    simp only [hsh, plus, ne, if_true, Bool.not_true, Bool.not_false, Bool.and_false, Bool.and_true, List.isEmpty_nil, Bool.false_eq_true, if_false]
    simp [h]
  · rw [hk rfl]
    simp only [hsh, plus, ne, if_true, Bool.not_true, Bool.not_false, Bool.and_false, Bool.and_true, List.isEmpty_nil, Bool.false_eq_true, if_false]
    have h := key r
    simp only [hsh] at h
    rw [h]
  · simp only [hsh, plus, ne, if_true, Bool.not_true, Bool.and_false, Bool.false_eq_true, if_false]

def strLen : Value → Nat | .string s => s.size | _ => 0

set_option maxHeartbeats 8000000 in
set_option maxRecDepth 100000 in
theorem relate_loop (f g : ByteArray) (ov : Bool) (w : World) (hf : f.size ≤ 1048576) (hg : g.size ≤ 1048576) (hgd : (dollar g.data.toList && wild f.data.toList || dollar f.data.toList && wild g.data.toList) = false) :
    Calls Try.prog 30 #[.string f, .string g, .bool ov] w fun e w' => e = .returned (.bool (rel ov true (lv f.data.toList) (lv g.data.toList))) ∧ ∃ n, w' = w.drewN n := by
  obtain ⟨D1, hD1⟩ : ∃ b, dollar g.data.toList = b := ⟨_, rfl⟩
  obtain ⟨D2, hD2⟩ : ∃ b, dollar f.data.toList = b := ⟨_, rfl⟩
  obtain ⟨W1, hW1⟩ : ∃ b, wild f.data.toList = b := ⟨_, rfl⟩
  obtain ⟨W2, hW2⟩ : ∃ b, wild g.data.toList = b := ⟨_, rfl⟩
  rw [hD1, hD2, hW1, hW2] at hgd
  have C1 : Hid (∀ w, Calls Try.prog 36 #[.string g] w fun e w' => e = .returned (.bool D1) ∧ w' = w) := fun w => by rw [← hD1]; exact dollar_any g w
  have C2 : Hid (∀ w, Calls Try.prog 36 #[.string f] w fun e w' => e = .returned (.bool D2) ∧ w' = w) := fun w => by rw [← hD2]; exact dollar_any f w
  have C3 : Hid (∀ w, Calls Try.prog 37 #[.string f] w fun e w' => e = .returned (.bool W1) ∧ w' = w) := fun w => by rw [← hW1]; exact wild_any f w
  have C4 : Hid (∀ w, Calls Try.prog 37 #[.string g] w fun e w' => e = .returned (.bool W2) ∧ w' = w) := fun w => by rw [← hW2]; exact wild_any g w
  obtain ⟨R, hR⟩ : ∃ R, rel ov true (lv f.data.toList) (lv g.data.toList) = R := ⟨_, rfl⟩
  rw [hR]
  have HR0 : Hid (rel ov true (lv f.data.toList) (lv g.data.toList) = R) := hR
  have HG : Hid ((D1 && W1 || D2 && W2) = false) := hgd
  clear hD1 hD2 hW1 hW2 hR hgd
  go_enter Try.func30, Try.ntmps30
  go_upto_region 1 with fail
  go_cut [27] from 14 (fun t wc => t = .bool false ∧ w = wc)
  case first =>
    go_wp2_with fail
    refine (C1.out _).mono ?_
    rintro e w' ⟨rfl, hw⟩
    rw [hw]
    cases D1
    · go_wp2_with fail
      refine (C2.out _).mono ?_
      rintro e w' ⟨rfl, hw⟩
      rw [hw]
      cases D2
      · go_wp2_with fail
        go_meet
        exact ⟨rfl, rfl⟩
      · have hw2 : W2 = false := HG.out
        go_wp2_with fail
        refine (C4.out _).mono ?_
        rintro e w' ⟨rfl, hw⟩
        rw [hw, hw2]
        go_wp2_with fail
        go_meet
        exact ⟨rfl, rfl⟩
    · go_wp2_with fail
      refine (C3.out _).mono ?_
      rintro e w' ⟨rfl, hw⟩
      rw [hw]
      cases W1
      · go_wp2_with fail
        refine (C2.out _).mono ?_
        rintro e w' ⟨rfl, hw⟩
        rw [hw]
        cases D2
        · go_wp2_with fail
          go_meet
          exact ⟨rfl, rfl⟩
        · have hw2 : W2 = false := HG.out
          go_wp2_with fail
          refine (C4.out _).mono ?_
          rintro e w' ⟨rfl, hw⟩
          rw [hw, hw2]
          go_wp2_with fail
          go_meet
          exact ⟨rfl, rfl⟩
      · exact absurd HG.out (by simp)
  case rest =>
    obtain ⟨rfl, rfl⟩ := hcut
    clear C1 C2 C3 C4 HG
    go_wp2_with fail
    go_loopw [0, 1, 7] (fun a b t wr => ∃ (F G : ByteArray) (tp : Bool), a = .string F ∧ b = .string G ∧ t = .bool tp ∧ F.size ≤ 1048576 ∧ G.size ≤ 1048576 ∧ rel ov tp (lv F.data.toList) (lv G.data.toList) = R ∧ ∃ n, wr = w.drewN n) (fun a _ _ _ => strLen a)
    case atStart => exact ⟨f, g, true, rfl, rfl, rfl, hf, hg, HR0.out, 0, rfl⟩
    case round =>
      obtain ⟨F, G, tp, rfl, rfl, rfl, hF, hG, hrl, n0, hwr⟩ := hrel
      have HRL : Hid (rel ov tp (lv F.data.toList) (lv G.data.toList) = R) := hrl
      have HW0 : Hid (wr = w.drewN n0) := hwr
      clear hrl hwr
      go_wp2_with fail
      refine (cut_ex F _ hF).mono ?_
      rintro e w1 ⟨A, P, m, rfl, hlvF, hltF, hnilF, n1, hw1⟩
      have HLF : Hid (lv F.data.toList = A.data.toList :: (if m then lv P.data.toList else [])) := hlvF
      have HNF : Hid (m = false → P.data.toList = []) := hnilF
      have HTF : Hid (m = true → P.size < F.size) := hltF
      have HW1 : Hid (w1 = wr.drewN n1) := hw1
      clear hlvF hnilF hltF hw1
      go_wp2_with fail
      refine (cut_ex G _ hG).mono ?_
      rintro e w2 ⟨B, Q, k, rfl, hlvG, hltG, hnilG, n2, hw2⟩
      have HW2 : Hid (∃ n, w2 = w.drewN n) := by
        refine ⟨n0 + n1 + n2, ?_⟩
        rw [hw2, HW1.out, HW0.out, World.drewN_drewN, World.drewN_drewN, Nat.add_assoc]
      have HTG : Hid (k = true → Q.size < G.size) := hltG
      have HR : Hid (R = if A.toList == [35] && !m then true
          else if B.toList == [35] && !k then ov || (tp && A.toList == [43] && P.toList == [35])
          else if A.toList == B.toList || A.toList == [43] || (ov && B.toList == [43]) then
            if !m then (if !k then true else ov && Q.toList == [35]) else (if !k then P.toList == [35] else rel ov false (lv P.data.toList) (lv Q.data.toList))
          else false) := by
        show R = _
        rw [← HRL.out, HLF.out, hlvG, rel_eq ov tp m k A.data.toList B.data.toList _ _ P.data.toList Q.data.toList HNF.out hnilG rfl rfl]
        simp only [Lib.toList_data]
      clear hlvG hnilG hltG hw2
      clear HLF HNF HRL HR0 HW0 HW1
      obtain ⟨t1, ht1⟩ : ∃ t, (A.toList == [35]) = t := ⟨_, rfl⟩
      obtain ⟨t2, ht2⟩ : ∃ t, (B.toList == [35]) = t := ⟨_, rfl⟩
      obtain ⟨t3, ht3⟩ : ∃ t, (A.toList == B.toList) = t := ⟨_, rfl⟩
      obtain ⟨t4, ht4⟩ : ∃ t, (A.toList == [43]) = t := ⟨_, rfl⟩
      obtain ⟨t5, ht5⟩ : ∃ t, (B.toList == [43]) = t := ⟨_, rfl⟩
      obtain ⟨t6, ht6⟩ : ∃ t, (P.toList == [35]) = t := ⟨_, rfl⟩
      obtain ⟨t7, ht7⟩ : ∃ t, (Q.toList == [35]) = t := ⟨_, rfl⟩
      rw [ht1, ht2, ht3, ht4, ht5, ht6, ht7] at HR
      cases m
      · cases t1
        · cases k
          · cases t2
            · cases t3
              · cases t4
                · cases ov
                  · go_wp2_with fail
                    go_ret
                    exact ⟨ret_bool (by rw [HR.out]; rfl), HW2.out⟩
                  · cases t5
                    · go_wp2_with fail
                      go_ret
                      exact ⟨ret_bool (by rw [HR.out]; rfl), HW2.out⟩
                    · go_wp2_with fail
                      go_ret
                      exact ⟨ret_bool (by rw [HR.out]; rfl), HW2.out⟩
                · go_wp2_with fail
                  go_ret
                  exact ⟨ret_bool (by rw [HR.out]; rfl), HW2.out⟩
              · go_wp2_with fail
                go_ret
                exact ⟨ret_bool (by rw [HR.out]; rfl), HW2.out⟩
            · cases ov
              · cases tp
                · go_wp2_with fail
                  go_ret
                  exact ⟨ret_bool (by rw [HR.out]; rfl), HW2.out⟩
                · cases t4
                  · go_wp2_with fail
                    go_ret
                    exact ⟨ret_bool (by rw [HR.out]; rfl), HW2.out⟩
                  · go_wp2_with fail
                    go_ret
                    exact ⟨ret_bool (by rw [HR.out]; rfl), HW2.out⟩
              · go_wp2_with fail
                go_ret
                exact ⟨ret_bool (by rw [HR.out]; rfl), HW2.out⟩
          · cases t2
            · cases t3
              · cases t4
                · cases ov
                  · go_wp2_with fail
                    go_ret
                    exact ⟨ret_bool (by rw [HR.out]; rfl), HW2.out⟩
                  · cases t5
                    · go_wp2_with fail
                      go_ret
                      exact ⟨ret_bool (by rw [HR.out]; rfl), HW2.out⟩
                    · go_wp2_with fail
                      go_ret
                      exact ⟨ret_bool (by rw [HR.out]; rfl), HW2.out⟩
                · cases ov
                  · go_wp2_with fail
                    go_ret
                    exact ⟨ret_bool (by rw [HR.out]; rfl), HW2.out⟩
                  · go_wp2_with fail
                    go_ret
                    exact ⟨ret_bool (by rw [HR.out]; rfl), HW2.out⟩
              · cases ov
                · go_wp2_with fail
                  go_ret
                  exact ⟨ret_bool (by rw [HR.out]; rfl), HW2.out⟩
                · go_wp2_with fail
                  go_ret
                  exact ⟨ret_bool (by rw [HR.out]; rfl), HW2.out⟩
            · cases t3
              · cases t4
                · cases ov
                  · go_wp2_with fail
                    go_ret
                    exact ⟨ret_bool (by rw [HR.out]; rfl), HW2.out⟩
                  · cases t5
                    · go_wp2_with fail
                      go_ret
                      exact ⟨ret_bool (by rw [HR.out]; rfl), HW2.out⟩
                    · go_wp2_with fail
                      go_ret
                      exact ⟨ret_bool (by rw [HR.out]; rfl), HW2.out⟩
                · cases ov
                  · go_wp2_with fail
                    go_ret
                    exact ⟨ret_bool (by rw [HR.out]; rfl), HW2.out⟩
                  · go_wp2_with fail
                    go_ret
                    exact ⟨ret_bool (by rw [HR.out]; rfl), HW2.out⟩
              · cases ov
                · go_wp2_with fail
                  go_ret
                  exact ⟨ret_bool (by rw [HR.out]; rfl), HW2.out⟩
                · go_wp2_with fail
                  go_ret
                  exact ⟨ret_bool (by rw [HR.out]; rfl), HW2.out⟩
        · go_wp2_with fail
          go_ret
          exact ⟨ret_bool (by rw [HR.out]; rfl), HW2.out⟩
      · cases t1
        · cases k
          · cases t2
            · cases t3
              · cases t4
                · cases ov
                  · go_wp2_with fail
                    go_ret
                    exact ⟨ret_bool (by rw [HR.out]; rfl), HW2.out⟩
                  · cases t5
                    · go_wp2_with fail
                      go_ret
                      exact ⟨ret_bool (by rw [HR.out]; rfl), HW2.out⟩
                    · go_wp2_with fail
                      go_ret
                      exact ⟨ret_bool (by rw [HR.out]; rfl), HW2.out⟩
                · go_wp2_with fail
                  go_ret
                  exact ⟨ret_bool (by rw [HR.out]; rfl), HW2.out⟩
              · go_wp2_with fail
                go_ret
                exact ⟨ret_bool (by rw [HR.out]; rfl), HW2.out⟩
            · cases ov
              · cases tp
                · go_wp2_with fail
                  go_ret
                  exact ⟨ret_bool (by rw [HR.out]; rfl), HW2.out⟩
                · cases t4
                  · go_wp2_with fail
                    go_ret
                    exact ⟨ret_bool (by rw [HR.out]; rfl), HW2.out⟩
                  · go_wp2_with fail
                    go_ret
                    exact ⟨ret_bool (by rw [HR.out]; rfl), HW2.out⟩
              · go_wp2_with fail
                go_ret
                exact ⟨ret_bool (by rw [HR.out]; rfl), HW2.out⟩
          · cases t2
            · cases t3
              · cases t4
                · cases ov
                  · go_wp2_with fail
                    go_ret
                    exact ⟨ret_bool (by rw [HR.out]; rfl), HW2.out⟩
                  · cases t5
                    · go_wp2_with fail
                      go_ret
                      exact ⟨ret_bool (by rw [HR.out]; rfl), HW2.out⟩
                    · go_wp2_with fail
                      exact ⟨⟨P, Q, false, rfl, rfl, rfl, by have := HTF.out (by simp); omega, by have := HTG.out (by simp); omega, by rw [HR.out]; rfl, HW2.out⟩, HTF.out (by simp)⟩
                · go_wp2_with fail
                  exact ⟨⟨P, Q, false, rfl, rfl, rfl, by have := HTF.out (by simp); omega, by have := HTG.out (by simp); omega, by rw [HR.out]; rfl, HW2.out⟩, HTF.out (by simp)⟩
              · go_wp2_with fail
                exact ⟨⟨P, Q, false, rfl, rfl, rfl, by have := HTF.out (by simp); omega, by have := HTG.out (by simp); omega, by rw [HR.out]; rfl, HW2.out⟩, HTF.out (by simp)⟩
            · cases t3
              · cases t4
                · cases ov
                  · go_wp2_with fail
                    go_ret
                    exact ⟨ret_bool (by rw [HR.out]; rfl), HW2.out⟩
                  · cases t5
                    · go_wp2_with fail
                      go_ret
                      exact ⟨ret_bool (by rw [HR.out]; rfl), HW2.out⟩
                    · go_wp2_with fail
                      exact ⟨⟨P, Q, false, rfl, rfl, rfl, by have := HTF.out (by simp); omega, by have := HTG.out (by simp); omega, by rw [HR.out]; rfl, HW2.out⟩, HTF.out (by simp)⟩
                · go_wp2_with fail
                  exact ⟨⟨P, Q, false, rfl, rfl, rfl, by have := HTF.out (by simp); omega, by have := HTG.out (by simp); omega, by rw [HR.out]; rfl, HW2.out⟩, HTF.out (by simp)⟩
              · go_wp2_with fail
                exact ⟨⟨P, Q, false, rfl, rfl, rfl, by have := HTF.out (by simp); omega, by have := HTG.out (by simp); omega, by rw [HR.out]; rfl, HW2.out⟩, HTF.out (by simp)⟩
        · cases k
          · cases t2
            · cases t3
              · cases t4
                · cases ov
                  · go_wp2_with fail
                    go_ret
                    exact ⟨ret_bool (by rw [HR.out]; rfl), HW2.out⟩
                  · cases t5
                    · go_wp2_with fail
                      go_ret
                      exact ⟨ret_bool (by rw [HR.out]; rfl), HW2.out⟩
                    · go_wp2_with fail
                      go_ret
                      exact ⟨ret_bool (by rw [HR.out]; rfl), HW2.out⟩
                · go_wp2_with fail
                  go_ret
                  exact ⟨ret_bool (by rw [HR.out]; rfl), HW2.out⟩
              · go_wp2_with fail
                go_ret
                exact ⟨ret_bool (by rw [HR.out]; rfl), HW2.out⟩
            · cases ov
              · cases tp
                · go_wp2_with fail
                  go_ret
                  exact ⟨ret_bool (by rw [HR.out]; rfl), HW2.out⟩
                · cases t4
                  · go_wp2_with fail
                    go_ret
                    exact ⟨ret_bool (by rw [HR.out]; rfl), HW2.out⟩
                  · go_wp2_with fail
                    go_ret
                    exact ⟨ret_bool (by rw [HR.out]; rfl), HW2.out⟩
              · go_wp2_with fail
                go_ret
                exact ⟨ret_bool (by rw [HR.out]; rfl), HW2.out⟩
          · cases t2
            · cases t3
              · cases t4
                · cases ov
                  · go_wp2_with fail
                    go_ret
                    exact ⟨ret_bool (by rw [HR.out]; rfl), HW2.out⟩
                  · cases t5
                    · go_wp2_with fail
                      go_ret
                      exact ⟨ret_bool (by rw [HR.out]; rfl), HW2.out⟩
                    · go_wp2_with fail
                      exact ⟨⟨P, Q, false, rfl, rfl, rfl, by have := HTF.out (by simp); omega, by have := HTG.out (by simp); omega, by rw [HR.out]; rfl, HW2.out⟩, HTF.out (by simp)⟩
                · go_wp2_with fail
                  exact ⟨⟨P, Q, false, rfl, rfl, rfl, by have := HTF.out (by simp); omega, by have := HTG.out (by simp); omega, by rw [HR.out]; rfl, HW2.out⟩, HTF.out (by simp)⟩
              · go_wp2_with fail
                exact ⟨⟨P, Q, false, rfl, rfl, rfl, by have := HTF.out (by simp); omega, by have := HTG.out (by simp); omega, by rw [HR.out]; rfl, HW2.out⟩, HTF.out (by simp)⟩
            · cases t3
              · cases t4
                · cases ov
                  · go_wp2_with fail
                    go_ret
                    exact ⟨ret_bool (by rw [HR.out]; rfl), HW2.out⟩
                  · cases t5
                    · go_wp2_with fail
                      go_ret
                      exact ⟨ret_bool (by rw [HR.out]; rfl), HW2.out⟩
                    · go_wp2_with fail
                      exact ⟨⟨P, Q, false, rfl, rfl, rfl, by have := HTF.out (by simp); omega, by have := HTG.out (by simp); omega, by rw [HR.out]; rfl, HW2.out⟩, HTF.out (by simp)⟩
                · go_wp2_with fail
                  exact ⟨⟨P, Q, false, rfl, rfl, rfl, by have := HTF.out (by simp); omega, by have := HTG.out (by simp); omega, by rw [HR.out]; rfl, HW2.out⟩, HTF.out (by simp)⟩
              · go_wp2_with fail
                exact ⟨⟨P, Q, false, rfl, rfl, rfl, by have := HTF.out (by simp); omega, by have := HTG.out (by simp); omega, by rw [HR.out]; rfl, HW2.out⟩, HTF.out (by simp)⟩
end Go.Proofs.Qxb6600528a.leaves
