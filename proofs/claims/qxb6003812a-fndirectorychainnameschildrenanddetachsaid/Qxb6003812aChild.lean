import Derived.Test.Qxb6003812aMake
import Derived.Test.Qxb6003812aShelf
import Derived.Lib.IfaceEq
namespace Go.Proofs.Qxb6003812a.chain
open Go.RowKit

abbrev errno (x : Int) : Value := .iface 79 (.int .u64 x)

theorem comp79 : (Try.prog.info? 79).map (·.comparable) = some true := by kernel_rfl

set_option maxHeartbeats 1000000 in
set_option maxRecDepth 100000 in
theorem check_any (n : ByteArray) (w : World) : Calls Try.prog 41 #[.string n] w fun e w' => (e = .returned .nilIface ∨ e = .returned (errno 22) ∨ e = .returned (errno 36)) ∧ w' = w := by
  have HI := Try.strings_IndexByte n 0 w
  obtain ⟨k, hk⟩ : ∃ k, Lib.indexByte n.data.toList (Int.toNat 0).toUInt8 = k := ⟨_, rfl⟩
  rw [hk] at HI
  have HH : Hid (Calls Try.prog 53 #[.string n, .int .u8 0] w fun e w' => e = .returned (.int .i64 k) ∧ w' = w) := HI
  clear HI hk
  go_enter Try.func41, Try.ntmps41
  go_wp2_with (first | (go_at_call 53; refine (HH.out).mono ?_; rintro e w' ⟨rfl, hw⟩; rw [hw]) | go_in)
  all_goals go_ret
  all_goals simp

set_option maxHeartbeats 1000000 in
set_option maxRecDepth 100000 in
theorem child_found (w : World) (d : Nat) (n : ByteArray) (c : Nat) (m : Int) (ent : Option Nat) (rem : Bool) (hd : Nd w d m ent rem)
    (hrun : (Instr.lookup 62 (.map ent) (.string n) false).run Try.prog w = .ok (ptr c) w) :
    Calls Try.prog 33 #[ptr d, .string n] w fun e w' => e = .returned (.tuple #[ptr c, .nilIface]) ∧ w' = w := by
  have c8 := hd.c8
  clear hd
  go_enter Try.func33, Try.ntmps33
  go_wp2_with fail
  go_ret2
  exact ⟨rfl, rfl⟩

set_option maxHeartbeats 1000000 in
set_option maxRecDepth 100000 in
theorem child_none (w : World) (d : Nat) (n : ByteArray) (m : Int) (ent : Option Nat) (rem : Bool) (hd : Nd w d m ent rem)
    (hrun : (Instr.lookup 62 (.map ent) (.string n) false).run Try.prog w = .ok (.pointer none) w) :
    Calls Try.prog 33 #[ptr d, .string n] w fun e w' => (∃ x, e = .returned (.tuple #[.pointer none, errno x])) ∧ w' = w := by
  have c8 := hd.c8
  have c9 := hd.c9
  have q1 := run_eql_nil_nil (P := Try.prog) w 34 (by rw [Try.underlying34]; rfl)
  have q2 := fun x : Int => run_eql_held_nil (P := Try.prog) w 34 79 (.int .u64 x) (by rw [Try.underlying34]; rfl)
  have q3 := fun a b : Int => Lib.run_eql_iface_int (k := .u64) w a b Try.underlying34 comp79 Try.underlying79
  have HC : Hid (Calls Try.prog 41 #[.string n] w fun e w' => (e = .returned .nilIface ∨ e = .returned (errno 22) ∨ e = .returned (errno 36)) ∧ w' = w) := check_any n w
  clear hd
  cases rem
  all_goals
    go_enter Try.func33, Try.ntmps33
    go_wp2_with (go_at_call 41; refine (HC.out).mono ?_; rintro e w' ⟨hh, hw⟩; rw [hw]; rcases hh with rfl | rfl | rfl)
  all_goals go_ret2
  all_goals exact ⟨⟨_, rfl⟩, rfl⟩

end Go.Proofs.Qxb6003812a.chain
