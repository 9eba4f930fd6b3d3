import Derived.Test.Qxb6003812aFix
namespace Go.Proofs.Qxb6003812a.chain
open Go.RowKit

theorem link2a (w : World) (e : Nat) (x : ByteArray) (c c' : Nat) (W : World) (h : G4 w e #[⟨.string x, ptr c, 0⟩] 1 W) (he : e < w.heap.size) :
    Calls Try.prog 12 #[ptr e, .string (x ++ ⟨#[35]⟩), ptr c'] W fun x' W' => x' = .returned (.tuple #[]) ∧ G4 w e #[⟨.string x, ptr c, 0⟩, ⟨.string (x ++ ⟨#[35]⟩), ptr c', 1⟩] 2 W' := by
  have hf : Instr.findNow .string (.string (x ++ ⟨#[35]⟩)) (#[(⟨.string x, ptr c, 0⟩ : MapEntry)]).toList 0 = some none := find1 x (ptr c) 0
  obtain ⟨es, hes⟩ : ∃ es, es = #[(⟨.string x, ptr c, 0⟩ : MapEntry)] := ⟨_, rfl⟩
  rw [← hes] at hf h
  obtain ⟨m, hm⟩ : ∃ m, m = x ++ (⟨#[35]⟩ : ByteArray) := ⟨_, rfl⟩
  rw [← hm] at hf ⊢
  have e2 : #[(⟨.string x, ptr c, 0⟩ : MapEntry), ⟨.string m, ptr c', 1⟩] = es.push ⟨.string m, ptr c', 1⟩ := by rw [hes]; rfl
  rw [e2]
  exact link2 w e m c' es 1 hf W h he

theorem link2b (w : World) (e : Nat) (x : ByteArray) (c c' c'' : Nat) (W : World) (h : G4 w e #[⟨.string x, ptr c, 0⟩, ⟨.string (x ++ ⟨#[35]⟩), ptr c', 1⟩] 2 W) (he : e < w.heap.size) :
    Calls Try.prog 12 #[ptr e, .string (x ++ ⟨#[126]⟩), ptr c''] W fun x' W' => x' = .returned (.tuple #[]) ∧ G4 w e #[⟨.string x, ptr c, 0⟩, ⟨.string (x ++ ⟨#[35]⟩), ptr c', 1⟩, ⟨.string (x ++ ⟨#[126]⟩), ptr c'', 2⟩] 3 W' := by
  have hf : Instr.findNow .string (.string (x ++ ⟨#[126]⟩)) (#[(⟨.string x, ptr c, 0⟩ : MapEntry), ⟨.string (x ++ ⟨#[35]⟩), ptr c', 1⟩]).toList 0 = some none := find2 x (ptr c) (ptr c') 0 1
  obtain ⟨es, hes⟩ : ∃ es, es = #[(⟨.string x, ptr c, 0⟩ : MapEntry), ⟨.string (x ++ ⟨#[35]⟩), ptr c', 1⟩] := ⟨_, rfl⟩
  rw [← hes] at hf h
  obtain ⟨m, hm⟩ : ∃ m, m = x ++ (⟨#[126]⟩ : ByteArray) := ⟨_, rfl⟩
  rw [← hm] at hf ⊢
  have e2 : #[(⟨.string x, ptr c, 0⟩ : MapEntry), ⟨.string (x ++ ⟨#[35]⟩), ptr c', 1⟩, ⟨.string m, ptr c'', 2⟩] = es.push ⟨.string m, ptr c'', 2⟩ := by rw [hes]; rfl
  rw [e2]
  exact link2 w e m c'' es 2 hf W h he

/-- the round's end -/
theorem St.stepAt {w0 : World} {F : List ByteArray} {a : Option Addr} {bd bs bf bw r0 k : Nat} {ls : List Lev} {w : World} (h : St w0 F a bd bs bf bw r0 k ls w) (hi : k < F.length) {n : ByteArray} (hn : F.getD k ByteArray.empty = n) {e0 : Nat} (he : last r0 ls = e0) {W : World}
    (g : G4 w e0 #[⟨.string n, ptr w.heap.size, 0⟩, ⟨.string (n ++ ⟨#[35]⟩), ptr (w.heap.size + 1), 1⟩, ⟨.string (n ++ ⟨#[126]⟩), ptr (w.heap.size + 2), 2⟩] 3 W) {W' : World}
    (e1 : W'.heap = ((((W.setCell ⟨bd, k + 1, none⟩ (ptr w.heap.size)).setCell ⟨bs, k, none⟩ (ptr (w.heap.size + 1))).setCell ⟨bf, k, none⟩ (ptr (w.heap.size + 2))).setCell ⟨bw, k + 1, none⟩ (.string (wantB F (k + 1)))).heap)
    (e2 : W'.os = W.os) (e3 : W'.tape = W.tape) (e4 : W'.output = W.output) : ∃ ls', St w0 F a bd bs bf bw r0 (k + 1) ls' W' := by
  subst hn
  subst he
  exact ⟨_, h.step hi (L := ⟨F.getD k ByteArray.empty, w.heap.size + 3, w.heap.size + 1, w.heap.size + 2, w.heap.size⟩) rfl g e1 e2 e3 e4⟩

end Go.Proofs.Qxb6003812a.chain
