import Derived.Test.Qxb6003812aClone
import Derived.Test.Qxb6003812aWrap
namespace Go.Proofs.Qxb6003812a.chain
open Go.RowKit
open Go.ChangeMaps (setBlock)

/-! ### rows that are filled from their start -/
def fill (A : List Value) (m : Nat) (z : Value) : List Value := A ++ List.replicate m z
theorem fill_len (A : List Value) (m : Nat) (z : Value) : (fill A m z).length = A.length + m := by simp [fill]
theorem fill_at (A : List Value) (m : Nat) (z : Value) (j : Nat) (h : j < A.length) (d : Value) : (fill A m z).getD j d = A.getD j d := by
  simp only [fill, List.getD_eq_getElem?_getD]
  rw [List.getElem?_append_left h]
theorem fill_set (A : List Value) (m : Nat) (z v : Value) : (fill A (m + 1) z).set A.length v = fill (A ++ [v]) m z := by
  simp [fill, List.replicate_succ]

theorem Rw.at {w : World} {b : Nat} {A : List Value} {m : Nat} {z : Value} (h : Rw w b (fill A m z)) {j : Nat} (hj : j < A.length) : w.cell? ⟨b, j, none⟩ = some (A.getD j .nilIface) := by
  rw [(h.2 j (by rw [fill_len]; omega)).1, fill_at A m z j hj]
theorem Rw.next {w : World} {b : Nat} {A : List Value} {m : Nat} {z : Value} (h : Rw w b (fill A (m + 1) z)) : (∃ v, w.cell? ⟨b, A.length, none⟩ = some v) ∧ w.frozen? ⟨b, A.length, none⟩ = false :=
  ⟨⟨_, (h.2 A.length (by rw [fill_len]; omega)).1⟩, (h.2 A.length (by rw [fill_len]; omega)).2⟩
theorem Rw.put {w : World} {b : Nat} {A : List Value} {m : Nat} {z : Value} (h : Rw w b (fill A (m + 1) z)) (v : Value) : Rw (w.setCell ⟨b, A.length, none⟩ v) b (fill (A ++ [v]) m z) := by
  rw [← fill_set]
  exact h.set (by rw [fill_len]; omega) v
theorem Rw.other {w : World} {b : Nat} {l : List Value} (h : Rw w b l) (c o : Nat) (hc : b ≠ c) (v : Value) : Rw (w.setCell ⟨c, o, none⟩ v) b l :=
  h.of_blk (Below.heap_setCell _ _ _ _ hc) (by rw [size_setCell]; exact h.1)
theorem Rw.like {w w' : World} {b : Nat} {l : List Value} (h : Rw w b l) (e : w'.heap = w.heap) : Rw w' b l := h.of_blk (by rw [e]) (by rw [e]; exact h.1)

/-! ### the names that are wanted -/
def wantB (F : List ByteArray) (j : Nat) : ByteArray := ⟨(path ((F.take j).map (·.data.toList))).toArray⟩

theorem ba_ext {x y : ByteArray} (h : x.data.toList = y.data.toList) : x = y := by
  cases x; cases y
  simp only [ByteArray.mk.injEq]
  exact Array.toList_inj.1 h

theorem wantB_zero (F : List ByteArray) : wantB F 0 = ⟨#[47]⟩ := rfl
theorem take_names (F : List ByteArray) (i : Nat) (h : i < F.length) : (F.take (i + 1)).map (·.data.toList) = (F.take i).map (·.data.toList) ++ [(F.getD i ByteArray.empty).data.toList] := by
  rw [List.take_add_one, List.map_append, List.getElem?_eq_getElem h, List.getD_eq_getElem?_getD, List.getElem?_eq_getElem h]
  rfl
theorem wantB_one (F : List ByteArray) (h : 0 < F.length) : (⟨#[47]⟩ : ByteArray) ++ F.getD 0 ByteArray.empty = wantB F 1 := by
  apply ba_ext
  unfold wantB
  rw [take_names F 0 h]
  simp [path]
theorem wantB_succ (F : List ByteArray) (i : Nat) (h : i < F.length) (hi : i ≠ 0) : (wantB F i ++ ⟨#[47]⟩) ++ F.getD i ByteArray.empty = wantB F (i + 1) := by
  apply ba_ext
  unfold wantB
  rw [take_names F i h, path_snoc _ _ (by
    intro e
    have := congrArg List.length e
    rw [List.length_map, List.length_take, List.length_nil] at this
    omega)]
  simp

def wants (F : List ByteArray) (i : Nat) : List Value := (List.range (i + 1)).map fun j => .string (wantB F j)
theorem wants_len (F : List ByteArray) (i : Nat) : (wants F i).length = i + 1 := by simp [wants]
theorem wants_at (F : List ByteArray) (i j : Nat) (h : j ≤ i) : (wants F i).getD j .nilIface = .string (wantB F j) := by
  simp [wants, List.getD_eq_getElem?_getD, List.getElem?_range (show j < i + 1 by omega)]
theorem wants_succ (F : List ByteArray) (i : Nat) : wants F (i + 1) = wants F i ++ [.string (wantB F (i + 1))] := by
  simp only [wants]
  rw [List.range_succ, List.map_append]
  rfl

/-! ### what stands after i storeys -/
structure St (w0 : World) (F : List ByteArray) (a : Option Addr) (bd bs bf bw r0 : Nat) (i : Nat) (ls : List Lev) (w : World) : Prop where
  nc : 0 < F.length → ∃ b, a = some ⟨b, 0, none⟩ ∧ b < bd ∧ ∀ j, j < F.length → w.cell? ⟨b, j, none⟩ = some (.string (F.getD j ByteArray.empty))
  o0 : w0.heap.size ≤ bd
  o1 : bd < bs
  o2 : bs < bf
  o3 : bf < bw
  rd : Rw w bd (fill ((dirs r0 ls).map ptr) (F.length - i) (.pointer none))
  rs : Rw w bs (fill (ls.map fun L => ptr L.sb) (F.length - i) (.pointer none))
  rf : Rw w bf (fill (ls.map fun L => ptr L.fb) (F.length - i) (.pointer none))
  rw_ : Rw w bw (fill (wants F i) (F.length - i) (.string ByteArray.empty))
  ch : Chain w r0 ls
  nd : (blks r0 ls).Nodup
  lo : ∀ b ∈ blks r0 ls, bw < b
  len : ls.length = i
  nm : ls.map (·.n) = F.take i
  bel : Below w0.heap.size w0 w

/-- the new nodes, the last directory e apart -/
structure Gr (w : World) (e : Nat) (W : World) : Prop where
  d : Nd W w.heap.size DIR none false
  s : Nd W (w.heap.size + 1) DIR none false
  f : Nd W (w.heap.size + 2) 0 none false
  rest : ∀ b, b < w.heap.size → b ≠ e → W.heap[b]? = w.heap[b]?
  bel : ∀ B, B ≤ e → Below B w W

theorem Below.like {B : Nat} {w W W' : World} (h : Below B w W) (e1 : W'.heap = W.heap) (e2 : W'.os = W.os) (e3 : W'.tape = W.tape) (e4 : W'.output = W.output) : Below B w W' :=
  ⟨e2.trans h.os, e3.trans h.tape, e4.trans h.output, by rw [e1]; exact h.size, fun k hk => by rw [e1]; exact h.block k hk⟩

theorem Nd.like {W W' : World} {b : Nat} {m : Int} {ent : Option Nat} {rem : Bool} (h : Nd W b m ent rem) (e1 : W'.heap = W.heap) : Nd W' b m ent rem := h.of_blk (by rw [e1])

theorem Gr.like {w : World} {e : Nat} {W W' : World} (h : Gr w e W) (e1 : W'.heap = W.heap) (e2 : W'.os = W.os) (e3 : W'.tape = W.tape) (e4 : W'.output = W.output) : Gr w e W' :=
  ⟨h.d.like e1, h.s.like e1, h.f.like e1, fun b hb hne => by rw [e1]; exact h.rest b hb hne, fun B hB => Below.like (h.bel B hB) e1 e2 e3 e4⟩

def G3 (w : World) (e : Nat) (W : World) : Prop := Gr w e W ∧ W.heap.size = w.heap.size + 3 ∧ Nd W e DIR none false
def G4 (w : World) (e : Nat) (es : Array MapEntry) (cl : Nat) (W : World) : Prop :=
  Gr w e W ∧ W.heap.size = w.heap.size + 4 ∧ Nd W e DIR (some (w.heap.size + 3)) false ∧ W.heap[w.heap.size + 3]? = some (.map es cl)

theorem G3.like {w : World} {e : Nat} {W W' : World} (h : G3 w e W) (e1 : W'.heap = W.heap) (e2 : W'.os = W.os) (e3 : W'.tape = W.tape) (e4 : W'.output = W.output) : G3 w e W' :=
  ⟨h.1.like e1 e2 e3 e4, by rw [e1]; exact h.2.1, h.2.2.like e1⟩
theorem G4.like {w : World} {e : Nat} {es : Array MapEntry} {cl : Nat} {W W' : World} (h : G4 w e es cl W) (e1 : W'.heap = W.heap) (e2 : W'.os = W.os) (e3 : W'.tape = W.tape) (e4 : W'.output = W.output) : G4 w e es cl W' :=
  ⟨h.1.like e1 e2 e3 e4, by rw [e1]; exact h.2.1, h.2.2.1.like e1, by rw [e1]; exact h.2.2.2⟩

theorem G3.make {w w1 w2 w3 : World} {e : Nat} (he : Nd w e DIR none false)
    (a1 : Nd w1 w.heap.size DIR none false) (a2 : w1.heap.size = w.heap.size + 1) (a3 : Below w.heap.size w w1)
    (b1 : Nd w2 w1.heap.size DIR none false) (b2 : w2.heap.size = w1.heap.size + 1) (b3 : Below w1.heap.size w1 w2)
    (c1 : Nd w3 w2.heap.size 0 none false) (c2 : w3.heap.size = w2.heap.size + 1) (c3 : Below w2.heap.size w2 w3) : G3 w e w3 := by
  have k3 : Below w.heap.size w w3 := a3.trans ((b3.mono (by omega)).trans (c3.mono (by omega)))
  have hlt := he.lt
  refine ⟨⟨?_, ?_, ?_, fun b hb _ => k3.block b hb, fun B hB => k3.mono (by omega)⟩, by omega, he.of_blk (k3.block _ hlt)⟩
  · exact (a1.of_blk (b3.block _ (by omega))).of_blk (c3.block _ (by omega))
  · rw [a2] at b1
    exact b1.of_blk (c3.block _ (by omega))
  · rw [b2, a2] at c1
    exact c1

theorem link1 (w : World) (e : Nat) (n : ByteArray) (c : Nat) (W : World) (h : G3 w e W) (he : e < w.heap.size) : Calls Try.prog 12 #[ptr e, .string n, ptr c] W fun x W' => x = .returned (.tuple #[]) ∧ G4 w e #[⟨.string n, ptr c, 0⟩] 1 W' := by
  obtain ⟨g, hs, hn⟩ := h
  refine (link_new W e false n c hn).mono fun x W' ⟨h1, h2, h3, h4, h5, h6⟩ => ⟨h1, ⟨?_, ?_, ?_, ?_, ?_⟩, by omega, by rw [hs] at h2; exact h2, by rw [hs] at h4; exact h4⟩
  · exact g.d.of_blk (h5 _ (by omega) (by omega))
  · exact g.s.of_blk (h5 _ (by omega) (by omega))
  · exact g.f.of_blk (h5 _ (by omega) (by omega))
  · intro b hb hne
    rw [h5 b (by omega) hne]
    exact g.rest b hb hne
  · intro B hB
    exact (g.bel B hB).trans (h6 B hB)

theorem link2 (w : World) (e : Nat) (n : ByteArray) (c : Nat) (es : Array MapEntry) (cl : Nat) (hf : Instr.findNow .string (.string n) es.toList 0 = some none) (W : World) (h : G4 w e es cl W) (he : e < w.heap.size) :
    Calls Try.prog 12 #[ptr e, .string n, ptr c] W fun x W' => x = .returned (.tuple #[]) ∧ G4 w e (es.push ⟨.string n, ptr c, cl⟩) (cl + 1) W' := by
  obtain ⟨g, hs, hn, hm⟩ := h
  refine (link_more W e _ false es cl n c hn hm hf).mono fun x W' ⟨h1, h2⟩ => ⟨h1, ?_⟩
  rw [h2]
  have k : ∀ b, b ≠ w.heap.size + 3 → (setBlock W (w.heap.size + 3) (.map (es.push ⟨.string n, ptr c, cl⟩) (cl + 1))).heap[b]? = W.heap[b]? := fun b hb => heap_set_ne _ _ _ _ hb
  refine ⟨⟨g.d.of_blk (k _ (by omega)), g.s.of_blk (k _ (by omega)), g.f.of_blk (k _ (by omega)), fun b hb hne => by rw [k b (by omega)]; exact g.rest b hb hne, fun B hB => below_setBlock (g.bel B hB) (by omega) _⟩, by rw [size_setBlock]; exact hs, hn.of_blk (k _ (by omega)), ?_⟩
  exact (MapKept.heap_set hm).1

theorem find1 (n : ByteArray) (v : Value) (b : Nat) : Instr.findNow .string (.string (n ++ ⟨#[35]⟩)) [(⟨.string n, v, b⟩ : MapEntry)] 0 = some none := by
  simp [Instr.findNow, Instr.sameNow, ne_ext]

theorem ext_ne (n : ByteArray) (c d : UInt8) (h : c ≠ d) : (n ++ ⟨#[c]⟩ == n ++ ⟨#[d]⟩) = false := by
  rw [Bool.eq_false_iff]
  intro e
  rw [MapKept.bytes_beq] at e
  have h2 := congrArg (fun x : ByteArray => x.data.toList) e
  simp at h2
  exact h h2

theorem find2 (n : ByteArray) (u v : Value) (a b : Nat) : Instr.findNow .string (.string (n ++ ⟨#[126]⟩)) [(⟨.string n, u, a⟩ : MapEntry), ⟨.string (n ++ ⟨#[35]⟩), v, b⟩] 0 = some none := by
  simp [Instr.findNow, Instr.sameNow, ne_ext, ext_ne n 126 35 (by decide)]

theorem find_name (L : Lev) : Instr.findNow .string (.string L.n) (ents L).toList 0 = some (some (0, ptr L.db)) := by
  have : (L.n == L.n) = true := by rw [MapKept.bytes_beq]
  simp [ents, Instr.findNow, Instr.sameNow, this]

theorem find_none (L : Lev) : Instr.findNow .string (.string (L.n ++ ⟨#[33]⟩)) (ents L).toList 0 = some none := by
  simp [ents, Instr.findNow, Instr.sameNow, ne_ext, ext_ne L.n 33 35 (by decide), ext_ne L.n 33 126 (by decide)]

theorem dirs_snoc (d : Nat) (ls : List Lev) (L : Lev) : dirs d (ls ++ [L]) = dirs d ls ++ [L.db] := by simp [dirs]

theorem St.step {w0 : World} {F : List ByteArray} {a : Option Addr} {bd bs bf bw r0 i : Nat} {ls : List Lev} {w : World} (h : St w0 F a bd bs bf bw r0 i ls w) (hi : i < F.length)
    {L : Lev} (eL : L = ⟨F.getD i ByteArray.empty, w.heap.size + 3, w.heap.size + 1, w.heap.size + 2, w.heap.size⟩) {W : World} (g : G4 w (last r0 ls) (ents L) 3 W) {W' : World}
    (e1 : W'.heap = ((((W.setCell ⟨bd, i + 1, none⟩ (ptr L.db)).setCell ⟨bs, i, none⟩ (ptr L.sb)).setCell ⟨bf, i, none⟩ (ptr L.fb)).setCell ⟨bw, i + 1, none⟩ (.string (wantB F (i + 1)))).heap)
    (e2 : W'.os = W.os) (e3 : W'.tape = W.tape) (e4 : W'.output = W.output) : St w0 F a bd bs bf bw r0 (i + 1) (ls ++ [L]) W' := by
  obtain ⟨gr, gs, gn, gm⟩ := g
  obtain ⟨nc, o0, o1, o2, o3, rd, rs, rf, rw_, ch, nd, lo, len, nm, bel⟩ := h
  have hlast : bw < last r0 ls := lo _ (last_mem _ _)
  have kb : Below (bw + 1) w W := gr.bel _ (by omega)
  have em : F.length - i = (F.length - (i + 1)) + 1 := by omega
  have heq : ∀ b, bw < b → W'.heap[b]? = W.heap[b]? := fun b hb => by
    rw [e1, Below.heap_setCell _ _ _ _ (show b ≠ bw by omega), Below.heap_setCell _ _ _ _ (show b ≠ bf by omega), Below.heap_setCell _ _ _ _ (show b ≠ bs by omega), Below.heap_setCell _ _ _ _ (show b ≠ bd by omega)]
  have hlow : ∀ b, b < bd → W'.heap[b]? = w.heap[b]? := fun b hb => by
    rw [e1, Below.heap_setCell _ _ _ _ (show b ≠ bw by omega), Below.heap_setCell _ _ _ _ (show b ≠ bf by omega), Below.heap_setCell _ _ _ _ (show b ≠ bs by omega), Below.heap_setCell _ _ _ _ (show b ≠ bd by omega)]
    exact kb.block b (by omega)
  have ld : ((dirs r0 ls).map ptr).length = i + 1 := by simp [dirs, len]
  have lsd : (ls.map fun L => ptr L.sb).length = i := by simp [len]
  have lfd : (ls.map fun L => ptr L.fb).length = i := by simp [len]
  have lwd : (wants F i).length = i + 1 := wants_len F i
  have chlt := ch.lt
  refine ⟨?_, o0, o1, o2, o3, ?_, ?_, ?_, ?_, ?_, ?_, ?_, by simp [len], ?_, ?_⟩
  · intro hp
    obtain ⟨b, h1, h2, h3⟩ := nc hp
    exact ⟨b, h1, h2, fun j hj => (World.cell?_of_block (w := w) (a := ⟨b, j, none⟩) (hlow b h2)).trans (h3 j hj)⟩
  · rw [em] at rd
    have r1 := (rd.below kb (by omega)).put (ptr L.db)
    rw [ld] at r1
    rw [dirs_snoc, List.map_append]
    exact (((r1.other bs _ (by omega) _).other bf _ (by omega) _).other bw _ (by omega) _).like e1
  · rw [em] at rs
    have r1 := ((rs.below kb (by omega)).other bd (i + 1) (by omega) (ptr L.db)).put (ptr L.sb)
    rw [lsd] at r1
    rw [List.map_append]
    exact ((r1.other bf _ (by omega) _).other bw _ (by omega) _).like e1
  · rw [em] at rf
    have r1 := (((rf.below kb (by omega)).other bd (i + 1) (by omega) (ptr L.db)).other bs i (by omega) (ptr L.sb)).put (ptr L.fb)
    rw [lfd] at r1
    rw [List.map_append]
    exact (r1.other bw _ (by omega) _).like e1
  · rw [em] at rw_
    have r1 := ((((rw_.below kb (by omega)).other bd (i + 1) (by omega) (ptr L.db)).other bs i (by omega) (ptr L.sb)).other bf i (by omega) (ptr L.fb)).put (.string (wantB F (i + 1)))
    rw [lwd] at r1
    rw [wants_succ]
    exact r1.like e1
  · have hsn : Chain W r0 (ls ++ [L]) := by
      subst eL
      exact ch.snoc _ nd (fun b hb hne => gr.rest b (chlt b hb) hne) gn gm gr.s gr.f gr.d
    refine hsn.kept fun b hb => heq b ?_
    rw [blks_snoc] at hb
    have hw : bw < w.heap.size := rw_.1
    rcases List.mem_append.1 hb with hb | hb
    · exact lo b hb
    · subst eL
      simp only [List.mem_cons, List.not_mem_nil, or_false] at hb
      omega
  · rw [blks_snoc]
    refine List.nodup_append.2 ⟨nd, ?_, ?_⟩
    · subst eL
      simp only [List.nodup_cons, List.mem_cons, List.not_mem_nil, or_false, not_or, not_false_iff, List.nodup_nil, and_true]
      omega
    · intro x hx y hy
      have := chlt x hx
      subst eL
      simp only [List.mem_cons, List.not_mem_nil, or_false] at hy
      omega
  · intro b hb
    rw [blks_snoc] at hb
    have hw : bw < w.heap.size := rw_.1
    rcases List.mem_append.1 hb with hb | hb
    · exact lo b hb
    · subst eL
      simp only [List.mem_cons, List.not_mem_nil, or_false] at hb
      omega
  · rw [List.map_append, nm, List.take_add_one, List.getElem?_eq_getElem hi]
    subst eL
    simp [List.getD_eq_getElem?_getD, List.getElem?_eq_getElem hi]
  · have k1 : Below w0.heap.size w0 W := bel.trans (kb.mono (by omega))
    exact Below.like ((((k1.setCell (p := ⟨bd, i + 1, none⟩) (by exact o0) _).setCell (p := ⟨bs, i, none⟩) (show w0.heap.size ≤ bs by omega) _).setCell (p := ⟨bf, i, none⟩) (show w0.heap.size ≤ bf by omega) _).setCell (p := ⟨bw, i + 1, none⟩) (show w0.heap.size ≤ bw by omega) _) e1 e2 e3 e4

end Go.Proofs.Qxb6003812a.chain
