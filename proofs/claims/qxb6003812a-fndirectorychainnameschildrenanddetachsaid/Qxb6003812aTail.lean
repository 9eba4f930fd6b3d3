import Derived.Test.Qxb6003812aStart
namespace Go.Proofs.Qxb6003812a.chain
open Go.RowKit

theorem ptr_neq_same (w : World) (a : Nat) : (binOp .neq 27 (ptr a) (ptr a)).run Try.prog w = .ok (.bool false) w := by
  obtain ⟨j, hj, _⟩ := info64
  have h : ∀ d : Nat, (Op.equalIn (d + 1) 27 (ptr a) (ptr a)).run Try.prog w = .ok true w := fun d => by
    simp [Op.equalIn, run_underlying Try.underlying27, sizeOf, typeInfo, hj, run_sameAddr_same]
  simp only [binOp]
  simp [Op.equal, Op.maxDepth, h 9999]

theorem ba_self (x : ByteArray) : (x == x) = true := (MapKept.bytes_beq x x).2 rfl
theorem ba_bne (x : ByteArray) : (x != x) = false := by rw [bne, ba_self]; rfl

/-- the law's second half: what holds of every world on its way ahead of the detaching -/
structure Mid (w0 : World) (F : List ByteArray) (a : Option Addr) (bd bs bf bw r0 : Nat) (ls : List Lev) (w : World) : Prop where
  fa : Fa F a bd bs bf bw r0 ls w
  be : Be F r0 ls w
  lo : ∀ b ∈ blks r0 ls, bw < b
  lw : w0.heap.size ≤ bw
  bel : Below w0.heap.size w0 w

theorem Mid.below {w0 : World} {F : List ByteArray} {a : Option Addr} {bd bs bf bw r0 : Nat} {ls : List Lev} {w w' : World} (h : Mid w0 F a bd bs bf bw r0 ls w) (b : Below w.heap.size w w') : Mid w0 F a bd bs bf bw r0 ls w' :=
  ⟨h.fa.below b, h.be.below b, h.lo, h.lw, h.bel.trans (b.mono (by have h1 := h.bel.size; exact h1))⟩

theorem St.mid {w0 : World} {F : List ByteArray} {a : Option Addr} {bd bs bf bw r0 : Nat} {ls : List Lev} {w : World} (h : St w0 F a bd bs bf bw r0 F.length ls w) (hg : ∀ x ∈ F, good x.data.toList = true) (ht : F.length + total F ≤ 1000000) : Mid w0 F a bd bs bf bw r0 ls w :=
  ⟨h.fa, ⟨h.ch, h.nd, by rw [h.nm, List.take_length], hg, ht⟩, h.lo, by have h1 := h.o0; have h2 := h.o1; have h3 := h.o2; have h4 := h.o3; omega, h.bel⟩

/-- behind the detaching -/
structure End (w0 : World) (F : List ByteArray) (a : Option Addr) (bd bs bf bw r0 : Nat) (ls : List Lev) (w : World) : Prop where
  fa : Fa F a bd bs bf bw r0 ls w
  af : Af F.length r0 ls w
  bel : Below w0.heap.size w0 w

theorem End.below {w0 : World} {F : List ByteArray} {a : Option Addr} {bd bs bf bw r0 : Nat} {ls : List Lev} {w w' : World} (h : End w0 F a bd bs bf bw r0 ls w) (b : Below w.heap.size w w') : End w0 F a bd bs bf bw r0 ls w' :=
  ⟨h.fa.below b, h.af.below b, h.bel.trans (b.mono h.bel.size)⟩

theorem Mid.detach {w0 : World} {F : List ByteArray} {a : Option Addr} {bd bs bf bw r0 : Nat} {ls : List Lev} {w : World} (h : Mid w0 F a bd bs bf bw r0 ls w) :
    Calls Try.prog 16 #[ptr r0] w fun e w' => e = .returned (.tuple #[]) ∧ End w0 F a bd bs bf bw r0 ls w' := by
  refine zdetach ((det_chain (bw + 1) ls r0 w h.be.ch h.be.nd (fun b hb => h.lo b hb)).mono fun e w' ⟨h1, h2⟩ => ⟨h1, ?_, h.be.detached h2, ?_⟩)
  · exact h.fa.kept (fun b hb => h2.2.2.block b (by omega)) h2.2.2.size
  · have := h.lw
    exact h.bel.trans (h2.2.2.mono (by omega))

theorem Mid.drewN {w0 : World} {F : List ByteArray} {a : Option Addr} {bd bs bf bw r0 : Nat} {ls : List Lev} {w : World} (h : Mid w0 F a bd bs bf bw r0 ls w) (n : Nat) : Mid w0 F a bd bs bf bw r0 ls (w.drewN n) :=
  h.below ⟨rfl, rfl, rfl, Nat.le_refl _, fun _ _ => rfl⟩
theorem End.drewN {w0 : World} {F : List ByteArray} {a : Option Addr} {bd bs bf bw r0 : Nat} {ls : List Lev} {w : World} (h : End w0 F a bd bs bf bw r0 ls w) (n : Nat) : End w0 F a bd bs bf bw r0 ls (w.drewN n) :=
  h.below ⟨rfl, rfl, rfl, Nat.le_refl _, fun _ _ => rfl⟩

end Go.Proofs.Qxb6003812a.chain
