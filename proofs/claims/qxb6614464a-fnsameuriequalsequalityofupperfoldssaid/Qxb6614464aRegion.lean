import Derived.Test.Qxb6614464aLower
namespace Go.Proofs.Qxb6614464a.leaves
open Go.RowKit
open plain (low up isC isE isA lastA hasSl reg)

theorem find_f {p : UInt8 → Bool} {l : List UInt8} {k : Nat} (hk : k < l.length) (h : k ≤ l.findIdx p) (hp : p l[k] = false) : k + 1 ≤ l.findIdx p := by
  by_cases e : l.findIdx p = k
  · have h1 := plain.at_find l p (by omega)
    simp only [e] at h1
    rw [hp] at h1
    cases h1
  · omega
theorem find_t {p : UInt8 → Bool} {l : List UInt8} {k : Nat} (hk : k < l.length) (h : k ≤ l.findIdx p) (hp : p l[k] = true) : l.findIdx p = k := by
  by_cases e : k < l.findIdx p
  · have h1 := List.not_of_lt_findIdx e
    rw [hp] at h1
    cases h1
  · omega
theorem find_end {p : UInt8 → Bool} {l : List UInt8} (h : l.length ≤ l.findIdx p) : l.findIdx p = l.length := by
  have := List.findIdx_le_length (p := p) (xs := l)
  omega

theorem byte_at (s : ByteArray) (k : Nat) (h : k < s.size) (h' : k < s.data.toList.length) : s.data.toList[k] = s[k]'h := rfl

theorem u8_eq (x : UInt8) (n : Nat) (hn : n < 256) : (((x.toNat : Nat) : Int) == (n : Int)) = (x == UInt8.ofNat n) := by
  rw [Bool.eq_iff_iff, beq_iff_eq, beq_iff_eq]
  constructor
  · intro h
    apply UInt8.toNat.inj
    rw [UInt8.toNat_ofNat']
    omega
  · intro h
    subst h
    rw [UInt8.toNat_ofNat']
    omega

theorem ret_reg {l : List UInt8} {a b c : Nat} (h : reg l = (a, b, c)) {x y z : Int} (hx : x = a) (hy : y = b) (hz : z = c) :
    Ending.returned (.tuple #[.int .i64 x, .int .i64 y, .int .i64 z]) = .returned (.tuple #[.int .i64 (reg l).1, .int .i64 (reg l).2.1, .int .i64 (reg l).2.2]) := by
  rw [h, hx, hy, hz]

theorem getD_byte {s : ByteArray} {l : List UInt8} (hA : ∀ (k : Nat) (h : k < s.size) (h' : k < l.length), l[k] = s[k]'h) (hL : l.length = s.size) (i : Nat) (hi : i < s.size) :
    (l[i]?.getD 0 == 47) = (((s[i]'hi).toNat : Int) == 47) := by
  rw [List.getElem?_eq_getElem (by rw [hL]; exact hi), Option.getD_some, hA i hi (by rw [hL]; exact hi), show ((47 : Int)) = ((47 : Nat) : Int) from rfl, u8_eq _ 47 (by omega)]
  rfl
theorem getD_out {s : ByteArray} {l : List UInt8} (hL : l.length = s.size) (i : Nat) (hi : ¬ i < s.size) : (l[i]?.getD 0 == 47) = false := by
  rw [List.getElem?_eq_none (by rw [hL]; omega)]
  rfl
theorem reg_short {l : List UInt8} {c : Nat} (hc : l.findIdx isC = c) (hlt : c < l.length) (h : hasSl l c = false) : reg l = (c, 0, 0) := by
  unfold reg
  rw [hc, if_pos hlt, h]
  rfl
theorem reg_long {l : List UInt8} {c e h : Nat} (hc : l.findIdx isC = c) (hlt : c < l.length) (hs : hasSl l c = true) (he : (l.drop (c + 3)).findIdx isE = e) (hh : lastA ((l.drop (c + 3)).take e) = h) : reg l = (c, c + 3 + h, c + 3 + e) := by
  unfold reg
  rw [hc, if_pos hlt, hs, if_pos rfl, he, hh]

theorem vint {k : IntKind} {a b : Int} (h : a = b) : Value.int k a = .int k b := by rw [h]
theorem lastA_take (a : List UInt8) (q : Nat) (hq : q < a.length) : lastA (a.take (q + 1)) = if isA a[q] then q + 1 else lastA (a.take q) := by
  rw [List.take_succ_eq_append_getElem hq, plain.lastA_snoc, List.length_take, Nat.min_eq_left (by omega)]
theorem lastA_take_le (a : List UInt8) (q : Nat) : lastA (a.take q) ≤ q := by
  have := plain.lastA_le (a.take q)
  rw [List.length_take] at this
  omega

set_option maxHeartbeats 4000000 in
set_option maxRecDepth 100000 in
theorem region_any (s : ByteArray) (w : World) (hs : s.size ≤ 1048576) :
    Calls Try.prog 14 #[.string s] w fun e w' => e = .returned (.tuple #[.int .i64 (reg s.data.toList).1, .int .i64 (reg s.data.toList).2.1, .int .i64 (reg s.data.toList).2.2]) ∧ w' = w := by
  have hlen : s.data.toList.length = s.size := (Lib.size_eq s).symm
  have hat := byte_at s
  obtain ⟨l, hl⟩ : ∃ l, s.data.toList = l := ⟨_, rfl⟩
  rw [hl] at hlen ⊢
  simp only [hl] at hat
  have HA : Hid (∀ (k : Nat) (h : k < s.size) (h' : k < l.length), l[k] = s[k]'h) := hat
  have HL : Hid (l.length = s.size) := hlen
  clear hl hlen hat
  go_enter Try.func14, Try.ntmps14
  go_wp2_with fail
  go_loop [5, 6] (fun c i => ∃ k : Nat, k ≤ s.size ∧ i = .int .i64 k ∧ c = .int .i64 (-1) ∧ k ≤ l.findIdx isC) (fun _ i => s.size - (intOf i).toNat)
  case atStart => exact ⟨0, by omega, rfl, rfl, Nat.zero_le _⟩
  case round =>
    obtain ⟨k, hk, rfl, rfl, hf⟩ := hrel
    by_cases hlt : k < s.size
    · have hkl : k < l.length := by rw [HL.out]; exact hlt
      have hx := HA.out k hlt hkl
      cases hc : isC l[k]
      · have hf' := find_f hkl hf hc
        have hb : (((s[k]'hlt).toNat : Int) == 58) = false := by
          rw [show ((58 : Int)) = ((58 : Nat) : Int) from rfl, u8_eq _ 58 (by omega), ← hx]
          exact hc
        clear hx hc hf
        go_wp2_with fail
        exact ⟨⟨k + 1, by omega, by go_num, rfl, hf'⟩, by simp [intOf]; omega⟩
      · have hf' := find_t hkl hf hc
        have hb : (((s[k]'hlt).toNat : Int) == 58) = true := by
          rw [show ((58 : Int)) = ((58 : Nat) : Int) from rfl, u8_eq _ 58 (by omega), ← hx]
          exact hc
        clear hx hc hf
        have HC : Hid (l.findIdx isC = k) := hf'
        clear hf'
        have hsh : Hid (hasSl l k = false → reg l = (k, 0, 0)) := fun h => reg_short HC.out hkl h
        by_cases h2 : k + 2 < s.size
        · have g1 := getD_byte HA.out HL.out (k + 1) (by omega)
          have g2 := getD_byte HA.out HL.out (k + 2) h2
          cases b1 : (((s[k + 1]'(by omega)).toNat : Int) == 47)
          · have HF : Hid (reg l = (k, 0, 0)) := hsh.out (by unfold hasSl; rw [g1, b1]; rfl)
            clear g1 g2
            go_wp2_with fail
            go_ret3
            exact ⟨ret_reg HF.out rfl rfl rfl, rfl⟩
          · cases b2 : (((s[k + 2]'h2).toNat : Int) == 47)
            · have HF : Hid (reg l = (k, 0, 0)) := hsh.out (by unfold hasSl; rw [g2, b2]; simp)
              clear g1 g2
              go_wp2_with fail
              go_ret3
              exact ⟨ret_reg HF.out rfl rfl rfl, rfl⟩
            · have HSL : Hid (hasSl l k = true) := by
                show hasSl l k = true
                unfold hasSl
                rw [g1, g2, b1, b2]
                rfl
              clear g1 g2
              obtain ⟨a, ha⟩ : ∃ a, l.drop (k + 3) = a := ⟨_, rfl⟩
              have hal : a.length = s.size - (k + 3) := by rw [← ha, List.length_drop, HL.out]
              have hav : ∀ (m : Nat) (h : k + 3 + m < s.size) (h' : m < a.length), a[m] = s[k + 3 + m]'h := by
                intro m h h'
                subst ha
                rw [List.getElem_drop]
                exact HA.out _ _ _
              have HV : Hid (∀ (m : Nat) (h : k + 3 + m < s.size) (h' : m < a.length), a[m] = s[k + 3 + m]'h) := hav
              have HAL : Hid (a.length = s.size - (k + 3)) := hal
              have HAE : Hid (l.drop (k + 3) = a) := ha
              clear hal hav ha
              go_wp2_with fail
              go_loop [8] (fun e => ∃ m : Nat, k + 3 + m ≤ s.size ∧ e = .int .i64 ((k : Int) + 3 + m) ∧ m ≤ a.findIdx isE) (fun e => s.size - (intOf e).toNat)
              case atStart => exact ⟨0, by omega, vint (by omega), Nat.zero_le _⟩
              case round =>
                obtain ⟨m, hm, rfl, hme⟩ := hrel
                by_cases hstop : ∃ h : m < a.length, isE a[m] = false
                · obtain ⟨hml, hxe⟩ := hstop
                  have hlt2 : k + 3 + m < s.size := by have := HAL.out; omega
                  have hnext := find_f hml hme hxe
                  rw [HV.out m hlt2 hml] at hxe
                  unfold isE at hxe
                  rw [Bool.or_eq_false_iff, Bool.or_eq_false_iff] at hxe
                  obtain ⟨⟨q1, q2⟩, q3⟩ := hxe
                  have r1 : ((((s[k + 3 + m]'hlt2).toNat : Int)) != 47) = true := by rw [bne, show ((47 : Int)) = ((47 : Nat) : Int) from rfl, u8_eq _ 47 (by omega)]; exact congrArg not q1
                  have r2 : ((((s[k + 3 + m]'hlt2).toNat : Int)) != 63) = true := by rw [bne, show ((63 : Int)) = ((63 : Nat) : Int) from rfl, u8_eq _ 63 (by omega)]; exact congrArg not q2
                  have r3 : ((((s[k + 3 + m]'hlt2).toNat : Int)) != 35) = true := by rw [bne, show ((35 : Int)) = ((35 : Nat) : Int) from rfl, u8_eq _ 35 (by omega)]; exact congrArg not q3
                  clear q1 q2 q3 hme
                  go_wp2_with fail
                  exact ⟨⟨m + 1, by omega, vint (by omega), hnext⟩, by simp [intOf]; omega⟩
                · have he : a.findIdx isE = m := by
                    by_cases hml : m < a.length
                    · refine find_t hml hme ?_
                      cases hb : isE a[m] with
                      | true => rfl
                      | false => exact absurd ⟨hml, hb⟩ hstop
                    · have h1 := List.findIdx_le_length (p := isE) (xs := a)
                      omega
                  have HE : Hid (a.findIdx isE = m) := he
                  have hcase : (¬ (k : Int) + 3 + m < s.size) ∨ (∃ h : k + 3 + m < s.size, ((((s[k + 3 + m]'h).toNat : Int)) != 47) = false) ∨ (∃ h : k + 3 + m < s.size, ((((s[k + 3 + m]'h).toNat : Int)) != 47) = true ∧ ((((s[k + 3 + m]'h).toNat : Int)) != 63) = false) ∨ (∃ h : k + 3 + m < s.size, ((((s[k + 3 + m]'h).toNat : Int)) != 47) = true ∧ ((((s[k + 3 + m]'h).toNat : Int)) != 63) = true ∧ ((((s[k + 3 + m]'h).toNat : Int)) != 35) = false) := by
                    by_cases hlt2 : k + 3 + m < s.size
                    · have hml : m < a.length := by have := HAL.out; omega
                      have hb : isE (s[k + 3 + m]'hlt2) = true := by
                        rw [← HV.out m hlt2 hml]
                        cases hb : isE a[m] with
                        | true => rfl
                        | false => exact absurd ⟨hml, hb⟩ hstop
                      unfold isE at hb
                      have e1 : ((((s[k + 3 + m]'hlt2).toNat : Int)) != 47) = !(s[k + 3 + m]'hlt2 == 47) := by rw [bne, show ((47 : Int)) = ((47 : Nat) : Int) from rfl, u8_eq _ 47 (by omega)]; rfl
                      have e2 : ((((s[k + 3 + m]'hlt2).toNat : Int)) != 63) = !(s[k + 3 + m]'hlt2 == 63) := by rw [bne, show ((63 : Int)) = ((63 : Nat) : Int) from rfl, u8_eq _ 63 (by omega)]; rfl
                      have e3 : ((((s[k + 3 + m]'hlt2).toNat : Int)) != 35) = !(s[k + 3 + m]'hlt2 == 35) := by rw [bne, show ((35 : Int)) = ((35 : Nat) : Int) from rfl, u8_eq _ 35 (by omega)]; rfl
                      cases c1 : (s[k + 3 + m]'hlt2 == 47)
                      · cases c2 : (s[k + 3 + m]'hlt2 == 63)
                        · rw [c1, c2] at hb
                          have c3 : (s[k + 3 + m]'hlt2 == 35) = true := by simpa using hb
                          exact .inr (.inr (.inr ⟨hlt2, by rw [e1, c1]; rfl, by rw [e2, c2]; rfl, by rw [e3, c3]; rfl⟩))
                        · exact .inr (.inr (.inl ⟨hlt2, by rw [e1, c1]; rfl, by rw [e2, c2]; rfl⟩))
                      · exact .inr (.inl ⟨hlt2, by rw [e1, c1]; rfl⟩)
                    · exact .inl (by omega)
                  clear hstop he hme
                  rcases hcase with r1 | ⟨hlt2, r1⟩ | ⟨hlt2, r1, r2⟩ | ⟨hlt2, r1, r2, r3⟩
                  all_goals
                    go_wp2_with fail
                    go_loop [9, 10] (fun h j => ∃ q : Nat, q ≤ m ∧ j = .int .i64 ((k : Int) + 3 + q) ∧ h = .int .i64 ((k : Int) + 3 + lastA (a.take q))) (fun _ j => k + 3 + m - (intOf j).toNat)
                    case atStart => exact ⟨0, by omega, vint (by omega), vint (by simp [plain.lastA_nil])⟩
                    case round =>
                      obtain ⟨q, hq, rfl, rfl⟩ := hrel
                      have hla := lastA_take_le a q
                      by_cases hqm : q < m
                      · have hq2 : k + 3 + q < s.size := by omega
                        have hql : q < a.length := by have := HAL.out; omega
                        have hst := lastA_take a q hql
                        rw [HV.out q hq2 hql] at hst
                        have HST : Hid (lastA (a.take (q + 1)) = if isA (s[k + 3 + q]'hq2) then q + 1 else lastA (a.take q)) := hst
                        clear hst
                        have e1 : ((((s[k + 3 + q]'hq2).toNat : Int)) == 64) = isA (s[k + 3 + q]'hq2) := by rw [show ((64 : Int)) = ((64 : Nat) : Int) from rfl, u8_eq _ 64 (by omega)]; rfl
                        cases hA2 : isA (s[k + 3 + q]'hq2)
                        · rw [hA2] at e1
                          rw [hA2] at HST
                          clear hA2
                          go_wp2_with fail
                          exact ⟨⟨q + 1, by omega, vint (by omega), vint (by rw [HST.out]; simp)⟩, by simp [intOf]; omega⟩
                        · rw [hA2] at e1
                          rw [hA2] at HST
                          clear hA2
                          go_wp2_with fail
                          exact ⟨⟨q + 1, by omega, vint (by omega), vint (by rw [HST.out]; simp; omega)⟩, by simp [intOf]; omega⟩
                      · obtain rfl : q = m := by omega
                        have HR : Hid (reg l = (k, k + 3 + lastA (a.take q), k + 3 + q)) := reg_long HC.out hkl HSL.out (by rw [HAE.out]; exact HE.out) (by rw [HAE.out])
                        go_wp2_with fail
                        go_ret3
                        exact ⟨ret_reg HR.out rfl (by omega) (by omega), rfl⟩
        · have HF : Hid (reg l = (k, 0, 0)) := hsh.out (by unfold hasSl; rw [getD_out HL.out (k + 2) h2]; simp)
          go_wp2_with fail
          go_ret3
          exact ⟨ret_reg HF.out rfl rfl rfl, rfl⟩
    · obtain rfl : k = s.size := by omega
      have hr : reg l = (0, 0, 0) := by
        unfold reg
        rw [if_neg (by rw [HL.out]; omega)]
      have HF : Hid (reg l = (0, 0, 0)) := hr
      clear hf hr
      go_wp2_with fail
      go_ret3
      exact ⟨ret_reg HF.out rfl rfl rfl, rfl⟩
end Go.Proofs.Qxb6614464a.leaves
