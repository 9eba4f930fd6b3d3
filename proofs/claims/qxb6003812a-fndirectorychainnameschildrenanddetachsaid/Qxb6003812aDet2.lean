import Derived.Test.Qxb6003812aDet
namespace Go.Proofs.Qxb6003812a.chain
open Go.RowKit
open Go.ChangeMaps (setBlock)

/-- where detach's loop stands -/
structure DI (B : Nat) (w : World) (L : Lev) (T : List Nat) (wr : World) (seen : Array Nat) : Prop where
  at_ : At L w.heap.size wr seen
  rest : ∀ b, b < w.heap.size → b ≠ L.sb → b ∉ T → wr.heap[b]? = w.heap[b]?
  dn : seen.contains 0 = true → ∀ b ∈ T, Nd wr b DIR none true
  du : seen.contains 0 = false → ∀ b ∈ T, wr.heap[b]? = w.heap[b]?
  sn : seen.contains 1 = true → Nd wr L.sb DIR none true
  su : seen.contains 1 = false → wr.heap[L.sb]? = w.heap[L.sb]?
  bel : Below B w wr

/-- what lies apart -/
structure Fit (w : World) (L : Lev) (T : List Nat) : Prop where
  hT : ∀ b ∈ T, b < w.heap.size
  hs : L.sb < w.heap.size
  hm : L.mb < w.heap.size
  hf : L.fb < w.heap.size
  sT : L.sb ∉ T
  mT : L.mb ∉ T
  fT : L.fb ∉ T
  ms : L.mb ≠ L.sb
  fs : L.fb ≠ L.sb

theorem DI.start {B : Nat} {w : World} {L : Lev} {T : List Nat} (hm : w.heap[L.mb]? = some (.map (ents L) 3)) (hB : B ≤ w.heap.size) (F : Fit w L T) : DI B w L T (w.alloc (.mapIter (some L.mb) 3 #[] 3)) #[] :=
  ⟨At.start hm, fun _ hb _ _ => heap_alloc_old _ _ hb, fun h => by simp at h, fun _ b hb => heap_alloc_old _ _ (F.hT b hb), fun h => by simp at h, fun _ => heap_alloc_old _ _ F.hs, (Below.refl B w).alloc hB _⟩

section
variable {B : Nat} {w : World} {L : Lev} {T : List Nat} {wr w2 : World} {seen : Array Nat}

theorem DI.unchanged (h : DI B w L T wr seen) (ho : ∀ b, b ≠ w.heap.size → w2.heap[b]? = wr.heap[b]?) (b : Nat) (hb : b < w.heap.size) (h1 : b = L.sb → seen.contains 1 = false) (h2 : b ∈ T → seen.contains 0 = false) : w2.heap[b]? = w.heap[b]? := by
  rw [ho b (by omega)]
  by_cases e1 : b = L.sb
  · rw [e1]; exact h.su (h1 e1)
  · by_cases e2 : b ∈ T
    · exact h.du (h2 e2) b e2
    · exact h.rest b hb e1 e2

/-- the next directory has been detached -/
theorem DI.db (h : DI B w L T wr seen) (F : Fit w L T) (ha : At L w.heap.size w2 (seen.push 0)) (ho : ∀ b, b ≠ w.heap.size → w2.heap[b]? = wr.heap[b]?) (hsz : w2.heap.size = wr.heap.size) (hbl : Below B wr w2) {w3 : World} (hd : Det B T w2 w3) : DI B w L T w3 (seen.push 0) := by
  obtain ⟨d1, d2, d3⟩ := hd
  have hsize : w.heap.size < w2.heap.size := ha.lt.1
  have hT' : w.heap.size ∉ T := fun hm => Nat.lt_irrefl _ (F.hT _ hm)
  refine ⟨ha.kept (d2 _ hsize hT') (d2 _ ha.lt.2 F.mT), fun b hb hs ht => ?_, fun _ => d1, fun hc => ?_, fun hc => ?_, fun hc => ?_, h.bel.trans (hbl.trans d3)⟩
  · rw [d2 b (by omega) ht, ho b (by omega)]
    exact h.rest b hb hs ht
  · rw [contains_push] at hc
    simp at hc
  · rw [contains_push, Bool.or_eq_true] at hc
    rcases hc with hc | hc
    · have := F.hs
      exact ((h.sn hc).of_blk (ho _ (by omega))).of_blk (d2 _ (by omega) F.sT)
    · simp at hc
  · rw [contains_push, Bool.or_eq_false_iff] at hc
    have := F.hs
    rw [d2 _ (by omega) F.sT, ho _ (by omega)]
    exact h.su hc.1

/-- the side has been detached -/
theorem DI.sb (h : DI B w L T wr seen) (F : Fit w L T) (ha : At L w.heap.size w2 (seen.push 1)) (ho : ∀ b, b ≠ w.heap.size → w2.heap[b]? = wr.heap[b]?) (hsz : w2.heap.size = wr.heap.size) (hbl : Below B wr w2) {w3 : World} (hd : Det B [L.sb] w2 w3) : DI B w L T w3 (seen.push 1) := by
  obtain ⟨d1, d2, d3⟩ := hd
  have hsize : w.heap.size < w2.heap.size := ha.lt.1
  have hs := F.hs
  have k : ∀ b, b ≠ L.sb → b ∉ [L.sb] := fun b hb => by simpa using hb
  refine ⟨ha.kept (d2 _ hsize (k _ (by omega))) (d2 _ ha.lt.2 (k _ F.ms)), fun b hb hs ht => ?_, fun hc b hb => ?_, fun hc b hb => ?_, fun _ => d1 _ (by simp), fun hc => ?_, h.bel.trans (hbl.trans d3)⟩
  · rw [d2 b (by omega) (k b hs), ho b (by omega)]
    exact h.rest b hb hs ht
  · rw [contains_push, Bool.or_eq_true] at hc
    have hb' := F.hT b hb
    have hne : b ≠ L.sb := fun e => F.sT (e ▸ hb)
    rcases hc with hc | hc
    · exact ((h.dn hc b hb).of_blk (ho _ (by omega))).of_blk (d2 _ (by omega) (k b hne))
    · simp at hc
  · rw [contains_push, Bool.or_eq_false_iff] at hc
    have hb' := F.hT b hb
    have hne : b ≠ L.sb := fun e => F.sT (e ▸ hb)
    rw [d2 _ (by omega) (k b hne), ho _ (by omega)]
    exact h.du hc.1 b hb
  · rw [contains_push] at hc
    simp at hc

/-- the file: nothing was done -/
theorem DI.fb (h : DI B w L T wr seen) (F : Fit w L T) (ha : At L w.heap.size w2 (seen.push 2)) (ho : ∀ b, b ≠ w.heap.size → w2.heap[b]? = wr.heap[b]?) (hbl : Below B wr w2) : DI B w L T w2 (seen.push 2) := by
  have hs := F.hs
  have e0 : (seen.push 2).contains 0 = seen.contains 0 := by rw [contains_push]; simp
  have e1 : (seen.push 2).contains 1 = seen.contains 1 := by rw [contains_push]; simp
  refine ⟨ha, fun b hb hs ht => ?_, fun hc b hb => ?_, fun hc b hb => ?_, fun hc => ?_, fun hc => ?_, h.bel.trans hbl⟩
  · rw [ho b (by omega)]
    exact h.rest b hb hs ht
  · have hb' := F.hT b hb
    exact (h.dn (e0 ▸ hc) b hb).of_blk (ho _ (by omega))
  · have hb' := F.hT b hb
    rw [ho b (by omega)]
    exact h.du (e0 ▸ hc) b hb
  · exact (h.sn (e1 ▸ hc)).of_blk (ho _ (by omega))
  · rw [ho _ (by omega)]
    exact h.su (e1 ▸ hc)

/-- the end -/
theorem DI.done (h : DI B w L T wr seen) (h0 : seen.contains 0 = true) (h1 : seen.contains 1 = true) {d : Nat} (hd : Nd wr d DIR (some L.mb) false) (hB : B ≤ d) (dT : d ∉ T) (ds : d ≠ L.sb) :
    Det B (d :: L.sb :: T) w ((wr.setCell ⟨d, 8, none⟩ (.map none)).setCell ⟨d, 9, none⟩ (.bool true)) := by
  refine ⟨?_, ?_, (h.bel.setCell hB _).setCell hB _⟩
  · intro b hb
    rcases List.mem_cons.1 hb with rfl | hb
    · exact nd_done hd
    · rcases List.mem_cons.1 hb with rfl | hb
      · exact (h.sn h1).of_blk (heap_done _ _ _ _ _ (Ne.symm ds))
      · exact (h.dn h0 b hb).of_blk (heap_done _ _ _ _ _ (fun e => dT (e ▸ hb)))
  · intro b hb hn
    simp only [List.mem_cons, not_or] at hn
    rw [heap_done _ _ _ _ _ hn.1]
    exact h.rest b hb hn.2.1 hn.2.2
end

set_option maxHeartbeats 4000000 in
set_option maxRecDepth 100000 in
theorem det_step (B : Nat) (L : Lev) (T : List Nat) (d : Nat) (w : World) (hd : Nd w d DIR (some L.mb) false) (hm : w.heap[L.mb]? = some (.map (ents L) 3))
    (hs : Nd w L.sb DIR none false) (hf : Nd w L.fb 0 none false) (F : Fit w L T) (dT : d ∉ T) (ds : d ≠ L.sb) (hB : B ≤ d) (hBs : B ≤ L.sb)
    (ih : ∀ w', (∀ b, b < w.heap.size → b ≠ L.sb → w'.heap[b]? = w.heap[b]?) → Calls Try.prog 34 #[ptr L.db] w' fun e w'' => e = .returned (.tuple #[]) ∧ Det B T w' w'') :
    Calls Try.prog 34 #[ptr d] w fun e w' => e = .returned (.tuple #[]) ∧ Det B (d :: L.sb :: T) w w' := by
  have c0 := hd.c0
  have c8 := hd.c8
  have hr := run_range_map (P := Try.prog) w 62 9 27 L.mb (ents L) 3 Try.underlying62 hm
  have hlt := hd.lt
  have HS : Hid (DI B w L T (w.alloc (.mapIter (some L.mb) 3 #[] 3)) #[]) := DI.start hm (by omega) F
  have HR : Hid (∀ wr seen, DI B w L T wr seen →
      ((∀ ty, (Instr.next (ptr w.heap.size) false ty).run Try.prog wr = .ok (.tuple #[.bool false]) wr) → True) ∧ Nd wr d DIR (some L.mb) false) :=
    fun wr seen h => ⟨fun _ => trivial, hd.of_blk (h.rest d hlt ds dT)⟩
  have HP : Hid (_ ∧ _ ∧ _ ∧ _ ∧ _ ∧ _ ∧ _) := ⟨hs, hf, F, dT, ds, hB, hBs⟩
  have HI : Hid _ := ih
  clear hd hm hs hf F dT ds hB hBs ih hlt
  go_enter Try.func34, Try.ntmps34
  go_wp2_with (go_at_call 42; refine (isDir_dir _ _ c0).mono ?_; rintro e w' ⟨rfl, hw⟩; rw [hw])
  go_loopw [3] (fun _ wr => ∃ seen, DI B w L T wr seen) (fun _ wr => wr.rangeLeft L.mb w.heap.size)
  case atStart => exact ⟨#[], HS.out⟩
  case round =>
    obtain ⟨seen, hdi⟩ := hrel
    have HX : Hid (DI B w L T wr seen) := hdi
    rcases hdi.at_.next 0 with ⟨hrun, h0, h1⟩ | ⟨e, w2, hc, hcs, hrun, hen, hat2, hsz, hoth, hbl, hlt⟩
    · have hN := (HR.out wr seen hdi).2
      have a8 := hN.c8
      have b8 := hN.f8
      have h2 := hN.setEnt none
      have a9 := h2.c9
      have b9 := h2.f9
      have HE : Hid (Det B (d :: L.sb :: T) w ((wr.setCell ⟨d, 8, none⟩ (.map none)).setCell ⟨d, 9, none⟩ (.bool true))) :=
        hdi.done h0 h1 hN HP.out.2.2.2.2.2.1 HP.out.2.2.2.1 HP.out.2.2.2.2.1
      clear hdi h0 h1 hN h2 HR HS HP HI HX
      go_wp2_with fail
      go_end0
      exact ⟨rfl, HE.out⟩
    · obtain ⟨hs, hf, F, dT, ds, hB, hBs⟩ := HP.out
      have sl := hs.lt
      have fl := hf.lt
      have hbl' : Below B wr w2 := hbl B (by omega)
      have hun : ∀ b, b < w.heap.size → (b = L.sb → seen.contains 1 = false) → (b ∈ T → seen.contains 0 = false) → w2.heap[b]? = w.heap[b]? := fun b hb k1 k2 => hdi.unchanged hoth b hb k1 k2
      rcases hc with rfl | rfl | rfl
      · have HC : Hid (Calls Try.prog 34 #[ptr L.db] w2 fun e w'' => e = .returned (.tuple #[]) ∧ (∃ seen, DI B w L T w'' seen) ∧ w''.rangeLeft L.mb w.heap.size < wr.rangeLeft L.mb w.heap.size) := by
          refine (HI.out w2 (fun b hb hne => hun b hb (fun e => absurd e hne) (fun _ => hcs))).mono fun e w'' ⟨k1, k2⟩ => ⟨k1, ?_⟩
          have k3 := hdi.db F hat2 hoth hsz hbl' k2
          exact ⟨⟨_, k3⟩, by rw [At.left hat2 k3.at_]; exact hlt⟩
        clear hdi HR HS HP HI HX hs hf F dT ds hB hBs sl fl hbl' hun hcs hat2 hsz hoth hbl hlt
        go_wp2_with (go_at_call 34; refine (HC.out).mono ?_; rintro e w3 ⟨rfl, hb3⟩)
        exact hb3
      · have HC : Hid (Calls Try.prog 34 #[ptr L.sb] w2 fun e w'' => e = .returned (.tuple #[]) ∧ (∃ seen, DI B w L T w'' seen) ∧ w''.rangeLeft L.mb w.heap.size < wr.rangeLeft L.mb w.heap.size) := by
          refine (det_leaf B w2 L.sb (hs.of_blk (hun _ sl (fun _ => hcs) (fun h => absurd h F.sT))) hBs).mono fun e w'' ⟨k1, k2⟩ => ⟨k1, ?_⟩
          have k3 := hdi.sb F hat2 hoth hsz hbl' k2
          exact ⟨⟨_, k3⟩, by rw [At.left hat2 k3.at_]; exact hlt⟩
        clear hdi HR HS HP HI HX hs hf F dT ds hB hBs sl fl hbl' hun hcs hat2 hsz hoth hbl hlt
        go_wp2_with (go_at_call 34; refine (HC.out).mono ?_; rintro e w3 ⟨rfl, hb3⟩)
        exact hb3
      · have HC : Hid (Calls Try.prog 34 #[ptr L.fb] w2 fun e w'' => e = .returned (.tuple #[]) ∧ (∃ seen, DI B w L T w'' seen) ∧ w''.rangeLeft L.mb w.heap.size < wr.rangeLeft L.mb w.heap.size) := by
          refine (det_file w2 L.fb false none (hf.of_blk (hun _ fl (fun e => absurd e F.fs) (fun h => absurd h F.fT)))).mono fun e w'' ⟨k1, k2⟩ => ⟨k1, ?_⟩
          rw [k2]
          have k3 := hdi.fb F hat2 hoth hbl'
          exact ⟨⟨_, k3⟩, hlt⟩
        clear hdi HR HS HP HI HX hs hf F dT ds hB hBs sl fl hbl' hun hcs hat2 hsz hoth hbl hlt
        go_wp2_with (go_at_call 34; refine (HC.out).mono ?_; rintro e w3 ⟨rfl, hb3⟩)
        exact hb3

theorem det_chain (B : Nat) : ∀ (ls : List Lev) (d : Nat) (w : World), Chain w d ls → (blks d ls).Nodup → (∀ b ∈ blks d ls, B ≤ b) →
    Calls Try.prog 34 #[ptr d] w fun e w' => e = .returned (.tuple #[]) ∧ Det B (touched d ls) w w'
  | [], d, w, h, _, hB => det_leaf B w d h (hB d (by simp [blks]))
  | L :: ls, d, w, h, nd, hB => by
    have hlt := h.lt
    obtain ⟨h1, h2, h3, h4, h5⟩ := h
    have hsub := touched_sub ls L.db
    have hlt5 := h5.lt
    have nd0 := nd
    simp only [blks, List.nodup_cons, List.mem_cons, not_or] at nd
    obtain ⟨⟨a1, a2, a3, a4⟩, ⟨b1, b2, b3⟩, ⟨c1, c2⟩, e1, nd'⟩ := nd
    refine det_step B L (touched L.db ls) d w h1 h2 h3 h4 ⟨fun b hb => hlt5 b (hsub b hb), h3.lt, (Array.getElem?_eq_some_iff.1 h2).1, h4.lt, fun h => c2 (hsub _ h), fun h => b3 (hsub _ h), fun h => e1 (hsub _ h), b1, Ne.symm c1⟩
      (fun h => a4 (hsub _ h)) a2 (hB _ (by simp [blks])) (hB _ (by simp [blks])) (fun w' hw' => ?_)
    exact det_chain B ls L.db w' (h5.kept fun b hb => hw' b (hlt5 b hb) (fun e => c2 (e ▸ hb))) nd' (fun b hb => hB b (by simp [blks, hb]))

end Go.Proofs.Qxb6003812a.chain
