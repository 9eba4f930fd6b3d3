import Derived.Test.Qxb6003812aTail
namespace Go.Proofs.Qxb6003812a.chain
open Go.RowKit

set_option maxHeartbeats 1000000 in
set_option maxRecDepth 100000 in
theorem check_fix (n : ByteArray) : ∃ v, (v = .nilIface ∨ v = errno 22 ∨ v = errno 36) ∧ ∀ w, Calls Try.prog 41 #[.string n] w fun e w' => e = .returned v ∧ w' = w := by
  obtain ⟨k, hk⟩ : ∃ k, Lib.indexByte n.data.toList (Int.toNat 0).toUInt8 = k := ⟨_, rfl⟩
  have HH : Hid (∀ w, Calls Try.prog 53 #[.string n, .int .u8 0] w fun e w' => e = .returned (.int .i64 k) ∧ w' = w) := fun w => by
    rw [← hk]; exact Try.strings_IndexByte n 0 w
  clear hk
  by_cases h1 : 0 ≤ k
  · refine ⟨errno 22, Or.inr (Or.inl rfl), fun w => ?_⟩
    go_enter Try.func41, Try.ntmps41
    go_wp2_with (first | (go_at_call 53; refine (HH.out _).mono ?_; rintro e w' ⟨rfl, hw⟩; rw [hw]) | go_in)
    all_goals go_ret
    all_goals first | exact ⟨rfl, rfl⟩ | skip
  · by_cases h2 : 255 < n.size
    · refine ⟨errno 36, Or.inr (Or.inr rfl), fun w => ?_⟩
      go_enter Try.func41, Try.ntmps41
      go_wp2_with (first | (go_at_call 53; refine (HH.out _).mono ?_; rintro e w' ⟨rfl, hw⟩; rw [hw]) | go_in)
      all_goals go_ret
      all_goals first | exact ⟨rfl, rfl⟩ | skip
    · refine ⟨.nilIface, Or.inl rfl, fun w => ?_⟩
      go_enter Try.func41, Try.ntmps41
      go_wp2_with (first | (go_at_call 53; refine (HH.out _).mono ?_; rintro e w' ⟨rfl, hw⟩; rw [hw]) | go_in)
      all_goals go_ret
      all_goals first | exact ⟨rfl, rfl⟩ | skip

/-- what comes back where the entry is not there: one value for all worlds -/
def Miss (n : ByteArray) (rem : Bool) (x : Int) : Prop := ∀ (w : World) (d : Nat) (m : Int) (ent : Option Nat), Nd w d m ent rem → (Instr.lookup 62 (.map ent) (.string n) false).run Try.prog w = .ok (.pointer none) w →
    Calls Try.prog 33 #[ptr d, .string n] w fun e w' => e = .returned (.tuple #[.pointer none, errno x]) ∧ w' = w

set_option maxHeartbeats 1000000 in
set_option maxRecDepth 100000 in
theorem miss_at (n : ByteArray) (rem : Bool) (v : Value) (HC : ∀ w, Calls Try.prog 41 #[.string n] w fun e w' => e = .returned v ∧ w' = w) (x : Int)
    (hv : (v = .nilIface ∧ x = 2) ∨ (v = errno 22 ∧ x = 22) ∨ (v = errno 36 ∧ rem = true ∧ x = 2) ∨ (v = errno 36 ∧ rem = false ∧ x = 36)) : Miss n rem x := by
  intro w d m ent hd hrun
  have c8 := hd.c8
  have c9 := hd.c9
  have q1 := run_eql_nil_nil (P := Try.prog) w 34 (by rw [Try.underlying34]; rfl)
  have q2 := fun x : Int => run_eql_held_nil (P := Try.prog) w 34 79 (.int .u64 x) (by rw [Try.underlying34]; rfl)
  have q3 := fun a b : Int => Lib.run_eql_iface_int (k := .u64) w a b Try.underlying34 comp79 Try.underlying79
  have HH : Hid (Calls Try.prog 41 #[.string n] w fun e w' => e = .returned v ∧ w' = w) := HC w
  clear hd HC
  rcases hv with ⟨rfl, rfl⟩ | ⟨rfl, rfl⟩ | ⟨rfl, rfl, rfl⟩ | ⟨rfl, rfl, rfl⟩
  · cases rem
    all_goals
      go_enter Try.func33, Try.ntmps33
      go_wp2_with (go_at_call 41; refine (HH.out).mono ?_; rintro e w' ⟨rfl, hw⟩; rw [hw])
      go_ret2
      exact ⟨rfl, rfl⟩
  · cases rem
    all_goals
      go_enter Try.func33, Try.ntmps33
      go_wp2_with (go_at_call 41; refine (HH.out).mono ?_; rintro e w' ⟨rfl, hw⟩; rw [hw])
      go_ret2
      exact ⟨rfl, rfl⟩
  · go_enter Try.func33, Try.ntmps33
    go_wp2_with (go_at_call 41; refine (HH.out).mono ?_; rintro e w' ⟨rfl, hw⟩; rw [hw])
    go_ret2
    exact ⟨rfl, rfl⟩
  · go_enter Try.func33, Try.ntmps33
    go_wp2_with (go_at_call 41; refine (HH.out).mono ?_; rintro e w' ⟨rfl, hw⟩; rw [hw])
    go_ret2
    exact ⟨rfl, rfl⟩

theorem miss (n : ByteArray) (rem : Bool) : ∃ x, Miss n rem x := by
  obtain ⟨v, hv, hc⟩ := check_fix n
  rcases hv with rfl | rfl | rfl
  · exact ⟨2, miss_at n rem _ hc 2 (Or.inl ⟨rfl, rfl⟩)⟩
  · exact ⟨22, miss_at n rem _ hc 22 (Or.inr (Or.inl ⟨rfl, rfl⟩))⟩
  · cases rem
    · exact ⟨36, miss_at n false _ hc 36 (Or.inr (Or.inr (Or.inr ⟨rfl, rfl, rfl⟩)))⟩
    · exact ⟨2, miss_at n true _ hc 2 (Or.inr (Or.inr (Or.inl ⟨rfl, rfl, rfl⟩)))⟩

set_option maxHeartbeats 1000000 in
set_option maxRecDepth 100000 in
theorem zmiss {n : ByteArray} {rem : Bool} {x : Int} (h : Miss n rem x) (w : World) (d : Nat) (m : Int) (ent : Option Nat) (hd : Nd w d m ent rem) (hrun : (Instr.lookup 62 (.map ent) (.string n) false).run Try.prog w = .ok (.pointer none) w) :
    Calls Try.prog 15 #[ptr d, .string n] w fun e w' => e = .returned (.tuple #[.pointer none, errno x]) ∧ w' = w := by
  have H : Hid (Calls Try.prog 33 #[ptr d, .string n] w fun e w' => e = .returned (.tuple #[.pointer none, errno x]) ∧ w' = w) := h w d m ent hd hrun
  clear hd hrun h
  go_enter Try.func15, Try.ntmps15
  go_wp2_with (go_at_call 33; refine (H.out).mono ?_; rintro e w' ⟨rfl, hw⟩; rw [hw])
  go_ret2
  exact ⟨rfl, rfl⟩

theorem Be.miss {F : List ByteArray} {r0 : Nat} {ls : List Lev} {x : Int} (j : Nat) (hx : Miss (F.getD j ByteArray.empty ++ ⟨#[33]⟩) false x) {w : World} (h : Be F r0 ls w) (hj : j < F.length) :
    Calls Try.prog 15 #[ptr (D r0 ls j), .string (F.getD j ByteArray.empty ++ ⟨#[33]⟩)] w fun e w' => e = .returned (.tuple #[.pointer none, errno x]) ∧ w' = w := by
  have hl : j < ls.length := by rw [h.len]; exact hj
  have hL : ls[j]? = some ls[j] := List.getElem?_eq_getElem hl
  obtain ⟨b, hb, hN, hm, _, _⟩ := h.ch.at j _ hL
  have eD : D r0 ls j = b := by rw [D, List.getD_eq_getElem?_getD, hb]; rfl
  rw [eD]
  rw [names_at h.nm j _ hL] at hx ⊢
  exact zmiss hx w b _ _ hN (run_get_none w _ _ _ _ hm (find_none _))

end Go.Proofs.Qxb6003812a.chain
