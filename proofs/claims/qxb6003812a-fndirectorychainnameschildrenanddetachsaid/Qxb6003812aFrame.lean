import Derived.Test.Qxb6003812aPre
import Derived.ProofKit
import Derived.OpenShut
import Derived.ShutString
import Derived.ChangeOld
import Derived.Below
import Derived.SliceStrings
namespace Go.Proofs.Qxb6003812a.fnDirectoryChainNamesChildrenAndDetachDone
open Go.ChangeShapes Go.WideShapes Go.ChangeAt Go.RowKit
open Go.Proofs.Qxb6003812a.chain (Nm)

theorem own : ownKnob Try.prog.godebug = none := by kernel_rfl
theorem laidOut : laidOutB Try.prog = true := by kernel_rfl
theorem cells9 : Try.prog.cellsOf 9 = 1 := by kernel_rfl

/-- what the walk says -/
def Walk : Prop := ∀ (a : Option Addr) (cap : Nat) (F : List ByteArray) (w : World), Nm w a F → F.length ≤ 9223372036854775807 → (∀ x ∈ F, x.size ≤ 9223372036854775807) →
    Calls Try.prog 3 #[.slice a F.length cap] w fun e w' => e = .returned (.bool true) ∧ Below w.heap.size w w'

set_option maxRecDepth 100000 in
theorem lifted (walk : Walk) (os : Os) (started : os.Started) (H : Type) (enc : TypeId × Value → H) :
    ReturnsInHanded {} Try.checked os 3 .any (Rows.fnDirectoryChainNamesChildrenAndDetachSpec.pre6 enc Try.prog Try.f3 Rows.fnDirectoryChainNamesChildrenAndDetachRow.domain false) (Rows.fnDirectoryChainNamesChildrenAndDetachSpec.post enc Try.prog Try.f3 false true false false) := by
  refine returnsInHanded_of_change (C := Try.checked) own started (by kernel_rfl) Try.func3
    (ChangeSpec.witness6 (enc := enc) (C := Try.checked) false ⟨#[], #[.slice none 0 0], []⟩ 8 (by kernel_rfl) (by kernel_rfl) (by kernel_rfl) (by kernel_rfl)) ?_
  intro W base args ds gs before hval0 hW _ _
  have hval : ∀ (j : Nat) t v, Try.f3.params[j]? = some t → args[j]? = some v → Value.okWide Try.prog W .any base t v := hval0
  have hW' := hW
  obtain ⟨p, q, hA0, hV, rfl, _, _⟩ := hW
  have hA : DataW.TrodAll enc Try.prog W 0 (fun _ => true) true Try.f3.params.toList args.toList ds p := hA0
  rw [Try.params3] at hA hval
  obtain ⟨v0, vs0, d0, ds0, p0, q0, hargs, rfl, rfl, h0, r0⟩ := trodAll_cons hA
  obtain ⟨rfl, rfl, rfl⟩ := trodAll_nil r0
  obtain rfl : args = #[v0] := by cases args; simp_all
  obtain ⟨rfl, rfl⟩ := trodVars_none hV
  obtain ⟨a0, len0, cap0, rfl⟩ := okWide_slice Try.underlying22 (hval 0 22 v0 rfl rfl)
  have k0 := h0
  have lt0 : ∀ x ∈ p0, x.block < W.heap.size := by obtain ⟨m, hm⟩ := k0; exact DataW.trod_lt m _ _ _ hm
  obtain ⟨F, hlen, hF, hl, hz⟩ : ∃ F : List ByteArray, len0 = F.length ∧ Nm W a0 F ∧ F.length ≤ 9223372036854775807 ∧ ∀ x ∈ F, x.size ≤ 9223372036854775807 := by
    obtain ⟨fuel, hf⟩ := h0
    rcases open_strings Try.underlying22 Try.underlying9 cells9 hf with ⟨hcs, _⟩ | ⟨x, l, c, ss, hcs, _, hl, hm, hss, _, hcell, hws⟩
    · simp [Value.cells] at hcs
      obtain ⟨rfl, rfl, rfl⟩ := hcs
      exact ⟨[], rfl, fun h => absurd h (by simp), by simp, fun x hx => by cases hx⟩
    · simp [Value.cells] at hcs
      obtain ⟨rfl, rfl, rfl⟩ := hcs
      simp only [if_true] at hss
      have hml : maxLen = 9223372036854775807 := rfl
      have e1 : (ss.take len0).length = len0 := by rw [List.length_take]; omega
      refine ⟨ss.take len0, e1.symm, fun hp => ?_, by omega, fun y hy => by have := hws y (List.mem_of_mem_take hy); omega⟩
      rw [e1] at hp ⊢
      obtain ⟨b, off, spot⟩ := x
      have hc := hcell 0 (by omega)
      have hspot : spot = none := by simpa [Addr.add] using World.cell?_spot hc
      subst hspot
      refine ⟨b, off, rfl, World.block_lt_of_cell? W _ hc, fun i hi => ?_⟩
      have h1 := hcell i (by omega)
      rw [show (⟨b, off, none⟩ : Addr).add i = ⟨b, off + i, none⟩ by simp [Addr.add]] at h1
      rw [h1]
      simp [List.getD_eq_getElem?_getD, hi]
  subst hlen
  refine (walk a0 cap0 F W hF hl hz).mono fun e W' ⟨he, bel⟩ => ?_
  subst he
  exact ⟨_, rfl, _, _, _, [], _, [], hW', trodAll_mk1 (shut_bool Try.underlying4 _), (trodAll_cons_mk (Below.trod laidOut (by kernel_rfl) (of_decide_eq_true (by kernel_rfl)) k0 bel lt0) trodAll_mk0), rfl, bel.frame _, fun h => by cases h⟩

theorem over (walk : Walk) : Rows.fnDirectoryChainNamesChildrenAndDetachRow.holds Try.pinned (OpenSpec.ofChange Rows.fnDirectoryChainNamesChildrenAndDetachSpec) :=
  OpenClaim.holds_of_wide 3 Try.f3 rfl rfl rfl rfl rfl rfl rfl ⟨rfl, rfl, rfl, rfl, rfl⟩ rfl rfl rfl rfl rfl (by kernel_rfl) Try.func3 (by kernel_rfl)
    (of_decide_eq_true (by kernel_rfl)) (by unfold Func.isWrapper; first | (rw [if_pos (by decide +kernel)]; kernel_rfl) | (rw [if_neg (by decide +kernel)]; exact ⟨rfl, rfl⟩))
    (fun os started H enc _ => lifted walk os started H enc)

end Go.Proofs.Qxb6003812a.fnDirectoryChainNamesChildrenAndDetachDone
