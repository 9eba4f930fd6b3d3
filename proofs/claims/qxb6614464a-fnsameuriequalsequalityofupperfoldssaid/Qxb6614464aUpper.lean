import Derived.Test.Qxb6614464aRegion
namespace Go.Proofs.Qxb6614464a.leaves
open Go.RowKit
open plain (low up isC isE isA lastA hasSl reg inR mapR upper)

theorem ret_bool {a b : Bool} (h : a = b) : Ending.returned (.bool a) = .returned (.bool b) := by rw [h]

set_option maxHeartbeats 1000000 in
theorem inRegion_any (k a b c : Nat) (w : World) :
    Calls Try.prog 15 #[.int .i64 k, .int .i64 a, .int .i64 b, .int .i64 c] w fun e w' => e = .returned (.bool (inR (a, b, c) k)) ∧ w' = w := by
  have hdef : inR (a, b, c) k = decide (k < a ∨ (b ≤ k ∧ k < c)) := rfl
  have HD : Hid (inR (a, b, c) k = decide (k < a ∨ (b ≤ k ∧ k < c))) := hdef
  clear hdef
  go_enter Try.func15, Try.ntmps15
  go_wp2
  all_goals (go_ret; refine ⟨ret_bool ?_, rfl⟩)
  all_goals (rw [HD.out, Bool.eq_iff_iff]; simp; try omega)

/-- after k rounds: the first k bytes mapped, the rest zeros -/
def Uk (l : List UInt8) (k : Nat) : List UInt8 := (upper l).take k ++ List.replicate (l.length - k) 0
theorem upper_length (l : List UInt8) : (upper l).length = l.length := by simp [upper, mapR]
theorem Uk_length (l : List UInt8) (k : Nat) (h : k ≤ l.length) : (Uk l k).length = l.length := by
  simp [Uk, upper_length]; omega
theorem Uk_succ (l : List UInt8) (k : Nat) (h : k < l.length) (x : UInt8) (hx : (upper l)[k]'(by rw [upper_length]; exact h) = x) : (Uk l k).set k x = Uk l (k + 1) := by
  have hul := upper_length l
  apply List.ext_getElem?
  intro j
  simp only [Uk]
  by_cases e : j = k
  · subst e
    rw [List.getElem?_set_self (by simp; omega), List.getElem?_append_left (by simp; omega)]
    rw [List.getElem?_take, if_pos (by omega), List.getElem?_eq_getElem (by omega), hx]
  · rw [List.getElem?_set_ne (Ne.symm e)]
    by_cases hlt : j < k
    · rw [List.getElem?_append_left (by simp; omega), List.getElem?_append_left (by simp; omega)]
      simp [hlt, show j < k + 1 from by omega]
    · rw [List.getElem?_append_right (by simp; omega), List.getElem?_append_right (by simp; omega)]
      simp only [List.length_take, List.getElem?_replicate]
      by_cases hj : j < l.length
      · rw [if_pos (by omega), if_pos (by omega)]
      · rw [if_neg (by omega), if_neg (by omega)]
theorem Uk_zero (l : List UInt8) : Uk l 0 = List.replicate l.length 0 := by simp [Uk]
theorem Uk_all (l : List UInt8) : Uk l l.length = upper l := by
  simp only [Uk, Nat.sub_self, List.replicate_zero, List.append_nil]
  rw [← upper_length l, List.take_length]
theorem upper_at (l : List UInt8) (k : Nat) (h : k < l.length) : (upper l)[k]'(by rw [upper_length]; exact h) = if inR (reg l) k then up l[k] else l[k] := by
  simp [upper, mapR]

theorem info5 : (Try.prog.info? 5).map (fun i => (i.zero, i.size, i.bytes)) = some (some (.int .u8 0), 1, 1) := by kernel_rfl

theorem made (n : Nat) (w : World) (hn : n ≤ 1048576) : ∃ w1, (Instr.makeSlice 22 (.int .i64 n) (.int .i64 n)).run Try.prog w = .ok (.slice (some ⟨w.heap.size, 0, none⟩) n n) w1 ∧ Row w1 w.heap.size (List.replicate n 0) ∧ Below w.heap.size w w1 := by
  obtain ⟨i, hi, hf⟩ := Option.map_eq_some_iff.1 info5
  simp only [Prod.mk.injEq] at hf
  obtain ⟨hz, hs, hb⟩ := hf
  have hr := run_make (P := Try.prog) w 22 5 i (.int .u8 0) Try.underlying22 hi hz .i64 .i64 n n (by omega) (Int.le_refl _) (by rw [hb]; omega) (by omega)
  rw [hs] at hr
  simp only [Int.toNat_natCast, Nat.mul_one] at hr
  refine ⟨_, hr, ?_, (Below.refl _ _).alloc (Nat.le_refl _) _⟩
  intro j hj
  rw [List.length_replicate] at hj
  have hl := toList_madeCells_one (.int .u8 0) n
  have hc : (madeCells (Value.int .u8 0).cells n)[j]? = some (.int .u8 0) := by
    rw [← Array.getElem?_toList]
    show (madeCells #[.int .u8 0] n).toList[j]? = _
    rw [hl, List.getElem?_replicate, if_pos hj]
  refine ⟨?_, ?_⟩
  · have h1 := World.cell?_alloc_mark w (madeCells (Value.int .u8 0).cells n) 5 (0, 0) j
    refine h1.trans ?_
    rw [hc]
    simp [List.getD_eq_getElem?_getD, hj]
  · have h1 := World.frozen?_alloc_mark w (madeCells (Value.int .u8 0).cells n) 5 0 0 j
    refine h1.trans ?_
    simp

theorem up_lo (x : UInt8) (h1 : 97 ≤ x.toNat) (h2 : x.toNat ≤ 122) : ((up x).toNat : Int) = (x.toNat : Int) - 32 := by
  unfold up
  rw [if_pos ⟨h1, h2⟩]
  simp
  omega
theorem up_id (x : UInt8) (h : ¬ (97 ≤ x.toNat ∧ x.toNat ≤ 122)) : up x = x := by
  unfold up
  rw [if_neg h]

set_option maxHeartbeats 2000000 in
set_option maxRecDepth 100000 in
theorem upper_any (s : ByteArray) (w : World) (hs : s.size ≤ 1048576) :
    Calls Try.prog 11 #[.string s] w fun e w' => e = .returned (.string ⟨(upper s.data.toList).toArray⟩) ∧ Below w.heap.size w w' := by
  obtain ⟨w1, hmake, hrow, hbel⟩ := made s.size w hs
  have hlen : s.data.toList.length = s.size := (Lib.size_eq s).symm
  have hat := byte_at s
  have HRG : Hid (∀ w, Calls Try.prog 14 #[.string s] w fun e w' => e = .returned (.tuple #[.int .i64 (reg s.data.toList).1, .int .i64 (reg s.data.toList).2.1, .int .i64 (reg s.data.toList).2.2]) ∧ w' = w) := fun w => region_any s w hs
  obtain ⟨l, hl⟩ : ∃ l, s.data.toList = l := ⟨_, rfl⟩
  rw [hl] at hlen HRG ⊢
  simp only [hl] at hat
  have HA : Hid (∀ (k : Nat) (h : k < s.size) (h' : k < l.length), l[k] = s[k]'h) := hat
  have HL : Hid (l.length = s.size) := hlen
  have HR : Hid (Row w1 w.heap.size (List.replicate s.size 0)) := hrow
  have HB : Hid (Below w.heap.size w w1) := hbel
  obtain ⟨a, b, c, hr⟩ : ∃ a b c, reg l = (a, b, c) := ⟨_, _, _, rfl⟩
  rw [hr] at HRG
  have HU : Hid (∀ (k : Nat) (h : k < l.length), (upper l)[k]'(by rw [upper_length]; exact h) = if inR (a, b, c) k then up l[k] else l[k]) := by
    intro k h
    rw [upper_at l k h, hr]
  clear hl hlen hat hrow hbel hr
  go_enter Try.func11, Try.ntmps11
  go_wp2_with (go_at_call 14; refine (HRG.out _).mono ?_; rintro e w' ⟨rfl, hw⟩; rw [hw])
  go_loopw [7] (fun i wr => ∃ k : Nat, k ≤ s.size ∧ i = .int .i64 k ∧ Row wr w.heap.size (Uk l k) ∧ Below w.heap.size w wr) (fun i _ => s.size - (intOf i).toNat)
  case atStart => exact ⟨0, by omega, rfl, by rw [Uk_zero, HL.out]; exact HR.out, HB.out⟩
  case round =>
    obtain ⟨k, hk, rfl, hrow, hbel⟩ := hrel
    by_cases hlt : k < s.size
    · have hkl : k < l.length := by rw [HL.out]; exact hlt
      obtain ⟨hcell, hfro⟩ := hrow k (by rw [Uk_length _ _ (by omega)]; exact hkl)
      have H1 : Hid (Row wr w.heap.size (Uk l k)) := hrow
      have H2 : Hid (Below w.heap.size w wr) := hbel
      have hux := HU.out k hkl
      rw [HA.out k hlt hkl] at hux
      obtain ⟨x, hx⟩ : ∃ x, s[k]'hlt = x := ⟨_, rfl⟩
      rw [hx] at hux
      have HUX : Hid ((upper l)[k]'(by rw [upper_length]; exact hkl) = if inR (a, b, c) k then up x else x) := hux
      have hfin : Hid (∀ (v : Int) (y : UInt8), (if inR (a, b, c) k then up x else x) = y → v = (y.toNat : Int) → Row (wr.setCell ⟨w.heap.size, k, none⟩ (.int .u8 v)) w.heap.size (Uk l (k + 1))) := by
        intro v y hy hv
        rw [hv, ← Uk_succ l k hkl y (by rw [HUX.out]; exact hy)]
        exact H1.out.set (by rw [Uk_length _ _ (by omega)]; exact hkl) y
      clear hrow hbel hux
      cases hin : inR (a, b, c) k
      · rw [hin] at hfin
        go_wp2_with (go_at_call 15; refine (inRegion_any k a b c _).mono ?_; rintro e w' ⟨rfl, hw⟩; rw [hw])
        refine ⟨⟨k + 1, by omega, by go_num, hfin.out _ _ rfl rfl, H2.out.setCell (Nat.le_refl _) _⟩, by simp [intOf]; omega⟩
      · rw [hin] at hfin
        by_cases hc1 : 97 ≤ x.toNat
        · have hc1' : (97 : Int) ≤ (x.toNat : Int) := by omega
          by_cases hc2 : x.toNat ≤ 122
          · have hc2' : (x.toNat : Int) ≤ 122 := by omega
            have H4 : Hid (((up x).toNat : Int) = (x.toNat : Int) - 32) := up_lo x hc1 hc2
            go_wp2_with (go_at_call 15; refine (inRegion_any k a b c _).mono ?_; rintro e w' ⟨rfl, hw⟩; rw [hw])
            refine ⟨⟨k + 1, by omega, by go_num, hfin.out _ _ rfl ?_, H2.out.setCell (Nat.le_refl _) _⟩, by simp [intOf]; omega⟩
            simp only [if_true]
            rw [H4.out]
            omega
          · have hc2' : ¬ (x.toNat : Int) ≤ 122 := by omega
            have H4 : Hid (up x = x) := up_id x (by omega)
            go_wp2_with (go_at_call 15; refine (inRegion_any k a b c _).mono ?_; rintro e w' ⟨rfl, hw⟩; rw [hw])
            refine ⟨⟨k + 1, by omega, by go_num, hfin.out _ _ H4.out rfl, H2.out.setCell (Nat.le_refl _) _⟩, by simp [intOf]; omega⟩
        · have hc1' : ¬ (97 : Int) ≤ (x.toNat : Int) := by omega
          have H4 : Hid (up x = x) := up_id x (by omega)
          go_wp2_with (go_at_call 15; refine (inRegion_any k a b c _).mono ?_; rintro e w' ⟨rfl, hw⟩; rw [hw])
          refine ⟨⟨k + 1, by omega, by go_num, hfin.out _ _ H4.out rfl, H2.out.setCell (Nat.le_refl _) _⟩, by simp [intOf]; omega⟩
    · obtain rfl : k = s.size := by omega
      rw [← HL.out, Uk_all] at hrow
      have hfb := fun cap => fromBytes hrow s.size cap (by rw [upper_length]; exact HL.out.symm)
      clear hrow
      have H2 : Hid (Below w.heap.size w wr) := hbel
      clear hbel
      go_wp2_with fail
      go_ret
      exact ⟨rfl, H2.out⟩
end Go.Proofs.Qxb6614464a.leaves
