import Derived.Test.Qxb6614464aRunes
namespace Go.Proofs.Qxb6614464a.leaves
open Go.RowKit

theorem get_in (s : ByteArray) (p : Nat) (h : p < s.size) : s.get! p = s[p]'h := by
  simp [ByteArray.get!, getElem!_pos, h]
  rfl

theorem decode_span (s : ByteArray) (pos : Nat) (h : pos < s.size) (ha : 128 ≤ (s[pos]'h).toNat) :
    Utf8.valid (Utf8.decode s pos).1 = true ∧ ∀ k, k < (Utf8.decode s pos).2 → pos + k < s.size ∧ 128 ≤ (s.get! (pos + k)).toNat := by
  have h0 : 128 ≤ (s.get! (pos + 0)).toNat := by rw [Nat.add_zero, get_in s pos h]; exact ha
  have hn : ¬ (s.get! (pos + 0)).toNat < 128 := by omega
  have hb0 : (s.get! (pos + 0)).toNat < 256 := UInt8.toNat_lt _
  have hb1 : (s.get! (pos + 1)).toNat < 256 := UInt8.toNat_lt _
  have one : ∀ k, k < 1 → pos + k < s.size ∧ 128 ≤ (s.get! (pos + k)).toNat := by
    intro k hk
    obtain rfl : k = 0 := by omega
    exact ⟨by omega, h0⟩
  have err : Utf8.valid ((Utf8.runeError : Nat) : Int) = true := by decide +kernel
  unfold Utf8.decode
  simp only [hn, if_false]
  split
  · rename_i hc
    simp only [Bool.and_eq_true, beq_iff_eq, decide_eq_true_eq] at hc
    split
    · rename_i hc2
      refine ⟨?_, fun k hk => ?_⟩
      · rw [validRune_eq]; simp only [validRune, decide_eq_true_eq]; omega
      · have : k = 0 ∨ k = 1 := by omega
        rcases this with rfl | rfl
        · exact ⟨by omega, h0⟩
        · exact ⟨by omega, by omega⟩
    · exact ⟨err, one⟩
  · split
    · rename_i hc
      simp only [Bool.and_eq_true, beq_iff_eq, decide_eq_true_eq] at hc
      split
      · rename_i hc2
        simp only [Bool.and_eq_true, decide_eq_true_eq] at hc2
        refine ⟨hc2.2, fun k hk => ?_⟩
        have : k = 0 ∨ k = 1 ∨ k = 2 := by omega
        rcases this with rfl | rfl | rfl
        · exact ⟨by omega, h0⟩
        · exact ⟨by omega, by omega⟩
        · exact ⟨by omega, by omega⟩
      · exact ⟨err, one⟩
    · split
      · rename_i hc
        simp only [Bool.and_eq_true, beq_iff_eq, decide_eq_true_eq] at hc
        split
        · rename_i hc2
          simp only [Bool.and_eq_true, decide_eq_true_eq] at hc2
          refine ⟨hc2.2, fun k hk => ?_⟩
          have : k = 0 ∨ k = 1 ∨ k = 2 ∨ k = 3 := by omega
          rcases this with rfl | rfl | rfl | rfl
          · exact ⟨by omega, h0⟩
          · exact ⟨by omega, by omega⟩
          · exact ⟨by omega, by omega⟩
          · exact ⟨by omega, by omega⟩
        · exact ⟨err, one⟩
      · exact ⟨err, one⟩

theorem noAny_span {s : ByteArray} {chars : List UInt8} {i n : Nat} (h : Lib.NoAny s.data.toList chars i) (hc : ∀ b ∈ chars, b.toNat < 128)
    (hs : ∀ k, k < n → i + k < s.size ∧ 128 ≤ (s.get! (i + k)).toNat) : Lib.NoAny s.data.toList chars (i + n) := by
  intro j b hj hb
  by_cases hlt : j < i
  · exact h j b hlt hb
  · obtain ⟨h1, h2⟩ := hs (j - i) (by omega)
    rw [show i + (j - i) = j from by omega] at h1 h2
    rw [get_in s j h1] at h2
    rw [Lib.data_getElem? s j h1] at hb
    cases hb
    cases hcon : chars.contains s[j] with
    | false => rfl
    | true =>
      have := hc _ (List.contains_iff_mem.1 hcon)
      omega

set_option maxHeartbeats 4000000 in
set_option maxRecDepth 1000000 in
theorem indexAny_short (s chars : ByteArray) (w : World) (h3 : chars.size = 3) (h8 : s.size ≤ 8) (hascii : ∀ b ∈ chars.data.toList, b.toNat < 128) :
    Calls Try.prog 23 #[.string s, .string chars] w fun e w' => e = .returned (.int .i64 (Lib.indexAny s.data.toList chars.data.toList)) ∧ Below w.heap.size w w' := by
  have HA : Hid (∀ b ∈ chars.data.toList, b.toNat < 128) := hascii
  clear hascii
  have hemp : chars.toList.isEmpty = false := by
    rw [Lib.toList_data]
    cases h : chars.data.toList with
    | nil => have := Lib.size_eq chars; rw [h, List.length_nil] at this; omega
    | cons _ _ => rfl
  have h8z : decide ((8 : Int) < (s.size : Int)) = false := decide_eq_false (by omega)
  go_enter Try.func23, Try.ntmps23
  go_wp2_with (go_at_call 28; refine (Try.strings_shouldUseASCIISet _ _).mono ?_; rintro e w' ⟨rfl, hw⟩; rw [hw, h8z])
  obtain ⟨k0, hk0⟩ : ∃ k0, k0 = w.heap.size := ⟨_, rfl⟩
  go_loopg [9, 10] s.size (fun g _ _ wx => ∃ i : Nat, i + g = s.size ∧ wx.heap[w.heap.size]? = some (.stringIter s i) ∧ Below w.heap.size w wx ∧ Lib.NoAny s.data.toList chars.data.toList i)
  case atStart => exact ⟨0, by omega, World.iter_heap _ _ _, (Below.refl _ _).alloc (Nat.le_refl _) _, Lib.NoAny.zero _ _⟩
  case round =>
    obtain ⟨i, hig, hit, hbel, hno⟩ := hrel
    have HN : Hid (Lib.NoAny s.data.toList chars.data.toList i) := hno
    have HB : Hid (Below w.heap.size w wr) := hbel
    have hsz : w.heap.size ≤ wr.heap.size := hbel.size
    clear hno hbel
    cases gk with
    | zero =>
      obtain rfl : i = s.size := by omega
      have hnx := fun ty => Lib.run_next_end_at (P := Try.prog) wr w.heap.size s s.size ty hit (by omega)
      go_wp2_with fail
      go_ret
      exact ⟨by rw [Lib.indexAny_none (by rw [← Lib.size_eq]; exact HN.out)]; rfl, HB.out⟩
    | succ g =>
      have hi : i < s.size := by omega
      by_cases hx : (s[i]'hi).toNat < 128
      · have hnx := fun ty => Lib.run_next_ascii_at (P := Try.prog) wr w.heap.size s i ty hit hi hx
        have HI : Hid ((wr.iterAt w.heap.size s (i + 1)).heap[w.heap.size]? = some (.stringIter s (i + 1))) := Lib.iterAt_heap _ _ _ _ _ hit
        have HB2 : Hid (Below w.heap.size w (wr.iterAt w.heap.size s (i + 1))) := Lib.below_iterAt HB.out (Nat.le_refl _) _ _
        have hxl := Lib.data_getElem? s i hi
        obtain ⟨x, hxe⟩ : ∃ x : UInt8, s[i]'hi = x := ⟨_, rfl⟩
        rw [hxe] at hnx hxl hx
        have Hx : Hid (s.data.toList[i]? = some x) := hxl
        clear hxl hxe
        have hcon := Lib.contains_iff_indexByte chars.data.toList x
        have hback : ((x.toNat : Int)).toNat.toUInt8 = x := by simp
        obtain ⟨wx, hwx⟩ : ∃ wx, wr.iterAt w.heap.size s (i + 1) = wx := ⟨_, rfl⟩
        rw [hwx] at hnx HI HB2
        clear hwx hit
        cases hin : chars.data.toList.contains x
        · rw [hin] at hcon
          have hlt : ¬ ((0 : Int) ≤ Lib.indexByte chars.data.toList x) := of_decide_eq_false hcon.symm
          clear hcon
          go_wp2_with (go_at_call 27; refine (Try.strings_IndexRune_ascii _ _ _ (by omega) (by omega)).mono ?_; rintro e w' ⟨rfl, hw⟩; rw [hw, hback])
          go_roundg g
          case measure => omega
          case rel => exact ⟨i + 1, by omega, HI.out, HB2.out, HN.out.succ Hx.out hin⟩
        · rw [hin] at hcon
          have hge : (0 : Int) ≤ Lib.indexByte chars.data.toList x := of_decide_eq_true hcon.symm
          clear hcon
          go_wp2_with (go_at_call 27; refine (Try.strings_IndexRune_ascii _ _ _ (by omega) (by omega)).mono ?_; rintro e w' ⟨rfl, hw⟩; rw [hw, hback])
          go_ret
          exact ⟨by rw [Lib.indexAny_hit HN.out Hx.out hin]; rfl, HB2.out⟩
      · have hdl := decode_high s i hi (by omega)
        have hnx := fun ty => Lib.run_next_any_at (P := Try.prog) wr w.heap.size s i ty hit hi
        have hsp := decode_span s i hi (by omega)
        obtain ⟨r, hr⟩ : ∃ r, (Utf8.decode s i).1 = r := ⟨_, rfl⟩
        obtain ⟨n, hn⟩ : ∃ n, (Utf8.decode s i).2 = n := ⟨_, rfl⟩
        rw [hr, hn] at hdl hsp
        simp only [hr, hn] at hnx
        clear hr hn
        obtain ⟨hd1, hd2⟩ := hdl
        obtain ⟨hv, hspan⟩ := hsp
        rw [validRune_eq] at hv
        have hlast := (hspan (n - 1) (by omega)).1
        have HS : Hid (Lib.NoAny s.data.toList chars.data.toList (i + n)) := noAny_span HN.out HA.out hspan
        have HV : Hid (validRune (r : Int) = true) := hv
        have HI : Hid ((wr.iterAt w.heap.size s (i + n)).heap[w.heap.size]? = some (.stringIter s (i + n))) := Lib.iterAt_heap _ _ _ _ _ hit
        have HB2 : Hid (Below w.heap.size w (wr.iterAt w.heap.size s (i + n))) := Lib.below_iterAt HB.out (Nat.le_refl _) _ _
        obtain ⟨wx, hwx⟩ : ∃ wx, wr.iterAt w.heap.size s (i + n) = wx := ⟨_, rfl⟩
        simp only [hwx] at hnx
        rw [hwx] at HI HB2
        clear hwx hit hv hspan
        go_wp2_with (go_at_call 27; refine (indexRune_high chars _ _ (by omega) HV.out h3 HA.out).mono ?_; rintro e w' ⟨rfl, hbw⟩)
        go_roundg (s.size - (i + n))
        case measure => omega
        case rel =>
          have hk : w.heap.size < wx.heap.size := (Array.getElem?_eq_some_iff.1 HI.out).1
          exact ⟨i + n, by omega, (hbw.block _ hk).trans HI.out, HB2.out.trans (hbw.mono (by omega)), HS.out⟩
end Go.Proofs.Qxb6614464a.leaves
