import Derived.Test.Qxb6003812aName2
import Derived.Test.Qxb6003812aDet2
import Derived.Test.Qxb6003812aChild
namespace Go.Proofs.Qxb6003812a.chain
open Go.RowKit

set_option maxHeartbeats 1000000 in
set_option maxRecDepth 100000 in
theorem zname {a b : Nat} {w : World} {s : ByteArray} {f : Bool} {Q : World → Prop} (h : Calls Try.prog 32 #[ptr a, ptr b] w fun e w' => e = .returned (.tuple #[.string s, .bool f]) ∧ Q w') :
    Calls Try.prog 13 #[ptr a, ptr b] w fun e w' => e = .returned (.tuple #[.string s, .bool f]) ∧ Q w' := by
  have H : Hid (Calls Try.prog 32 #[ptr a, ptr b] w fun e w' => e = .returned (.tuple #[.string s, .bool f]) ∧ Q w') := h
  clear h
  go_enter Try.func13, Try.ntmps13
  go_wp2_with (go_at_call 32; refine (H.out).mono ?_; rintro e w' ⟨rfl, hq⟩; have HQ : Hid (Q w') := hq; clear hq)
  go_ret2
  exact ⟨rfl, HQ.out⟩

set_option maxHeartbeats 1000000 in
set_option maxRecDepth 100000 in
theorem zremoved (w : World) (d : Nat) (m : Int) (ent : Option Nat) (rem : Bool) (h : Nd w d m ent rem) : Calls Try.prog 14 #[ptr d] w fun e w' => e = .returned (.bool rem) ∧ w' = w := by
  have c9 := h.c9
  clear h
  go_enter Try.func14, Try.ntmps14
  go_wp2
  go_ret
  exact ⟨rfl, rfl⟩

set_option maxHeartbeats 1000000 in
set_option maxRecDepth 100000 in
theorem zchild_found (w : World) (d : Nat) (n : ByteArray) (c : Nat) (m : Int) (ent : Option Nat) (rem : Bool) (hd : Nd w d m ent rem)
    (hrun : (Instr.lookup 62 (.map ent) (.string n) false).run Try.prog w = .ok (ptr c) w) :
    Calls Try.prog 15 #[ptr d, .string n] w fun e w' => e = .returned (.tuple #[ptr c, .nilIface]) ∧ w' = w := by
  have H : Hid (Calls Try.prog 33 #[ptr d, .string n] w fun e w' => e = .returned (.tuple #[ptr c, .nilIface]) ∧ w' = w) := child_found w d n c m ent rem hd hrun
  clear hd hrun
  go_enter Try.func15, Try.ntmps15
  go_wp2_with (go_at_call 33; refine (H.out).mono ?_; rintro e w' ⟨rfl, hw⟩; rw [hw])
  go_ret2
  exact ⟨rfl, rfl⟩

set_option maxHeartbeats 1000000 in
set_option maxRecDepth 100000 in
theorem zchild_none (w : World) (d : Nat) (n : ByteArray) (m : Int) (ent : Option Nat) (rem : Bool) (hd : Nd w d m ent rem)
    (hrun : (Instr.lookup 62 (.map ent) (.string n) false).run Try.prog w = .ok (.pointer none) w) :
    Calls Try.prog 15 #[ptr d, .string n] w fun e w' => (∃ x, e = .returned (.tuple #[.pointer none, errno x])) ∧ w' = w := by
  have H : Hid (Calls Try.prog 33 #[ptr d, .string n] w fun e w' => (∃ x, e = .returned (.tuple #[.pointer none, errno x])) ∧ w' = w) := child_none w d n m ent rem hd hrun
  clear hd hrun
  go_enter Try.func15, Try.ntmps15
  go_wp2_with (go_at_call 33; refine (H.out).mono ?_; rintro e w' ⟨⟨x, rfl⟩, hw⟩; rw [hw])
  go_ret2
  exact ⟨⟨x, rfl⟩, rfl⟩

set_option maxHeartbeats 1000000 in
set_option maxRecDepth 100000 in
theorem zdetach {d : Nat} {w : World} {Q : World → Prop} (h : Calls Try.prog 34 #[ptr d] w fun e w' => e = .returned (.tuple #[]) ∧ Q w') :
    Calls Try.prog 16 #[ptr d] w fun e w' => e = .returned (.tuple #[]) ∧ Q w' := by
  have H : Hid (Calls Try.prog 34 #[ptr d] w fun e w' => e = .returned (.tuple #[]) ∧ Q w') := h
  clear h
  go_enter Try.func16, Try.ntmps16
  go_wp2_with (go_at_call 34; refine (H.out).mono ?_; rintro e w' ⟨rfl, hq⟩; have HQ : Hid (Q w') := hq; clear hq)
  go_end0
  exact ⟨rfl, HQ.out⟩

set_option maxHeartbeats 1000000 in
set_option maxRecDepth 100000 in
theorem zcount (w : World) (d : Nat) (m : Int) (rem : Bool) (h : Nd w d m none rem) : Calls Try.prog 17 #[ptr d] w fun e w' => e = .returned (.int .i64 0) ∧ w' = w := by
  have c8 := h.c8
  clear h
  go_enter Try.func17, Try.ntmps17
  go_wp2
  go_ret
  exact ⟨rfl, rfl⟩

end Go.Proofs.Qxb6003812a.chain
