import Derived.Test.Qxb6003812aLink
import Derived.Deep.Draws
import Derived.Deep.QuietTactic
import Derived.BigQuiet
import Derived.Deep.RegionWith
import Derived.Deep.DeepCutAuto
namespace Go.Proofs.Qxb6003812a.chain
open Go.RowKit

theorem getD_mem (F : List ByteArray) (k : Nat) (h : k < F.length) : F.getD k ByteArray.empty ∈ F := by
  rw [List.getD_eq_getElem?_getD, List.getElem?_eq_getElem h]
  exact List.getElem_mem h

set_option maxHeartbeats 40000000 in
set_option maxRecDepth 1000000 in
theorem walk (a : Option Addr) (cap : Nat) (F : List ByteArray) (w : World) (hF : Nm w a F) (hcap : F.length ≤ 9223372036854775807) (hz : ∀ x ∈ F, x.size ≤ 9223372036854775807) :
    Calls Try.prog 3 #[.slice a F.length cap] w fun e w' => e = .returned (.bool true) ∧ Below w.heap.size w w' := by
  have HZ : Hid (Calls Try.prog 7 #[.slice a F.length cap] w fun e w' => Yes e (F.length + total F ≤ 1048576) ∧ w' = w) := zz_any a cap F w hF hcap hz
  have HF : Hid (Nm w a F) := hF
  clear hF hz
  go_enter Try.func3, Try.ntmps3
  go_wp2_with fail
  refine (HZ.out).mono ?_
  rintro e w' ⟨⟨b, rfl, hb⟩, hw⟩
  rw [hw]
  clear hw w'
  cases b
  · clear hb
    go_wp2_with fail
    go_ret
    exact ⟨rfl, Below.refl _ _⟩
  · have hT : F.length + total F ≤ 1048576 := hb rfl
    clear hb HZ
    go_wp2_with fail
    go_loop [3, 4] (fun z i => ∃ k : Nat, k ≤ F.length ∧ i = .int .i64 k ∧ z = .int .i64 ((16 * F.length + total (F.take k) : Nat) : Int)) (fun _ i => F.length - (intOf i).toNat)
    case atStart => exact ⟨0, by omega, rfl, by simp [total]⟩
    case round =>
      obtain ⟨k, hk, rfl, rfl⟩ := hrel
      by_cases hlt : k < F.length
      · obtain ⟨b, o, ha, hb, hc⟩ := HF.out (by omega)
        subst ha
        have hcell := hc k hlt
        have HT' : Hid (total (F.take (k + 1)) = total (F.take k) + (F.getD k ByteArray.empty).size) := total_take F k hlt
        have hle := total_le F (k + 1)
        rw [HT'.out] at hle
        obtain ⟨x, hx⟩ : ∃ x, F.getD k ByteArray.empty = x := ⟨_, rfl⟩
        obtain ⟨m, hm⟩ : ∃ x, total (F.take k) = x := ⟨_, rfl⟩
        obtain ⟨tt, htt⟩ : ∃ x, total F = x := ⟨_, rfl⟩
        rw [hx] at hcell HT'
        rw [hx] at hle
        rw [hm] at hle HT' ⊢
        rw [htt] at hle hT
        clear hx hm hc hb htt
        go_wp2_with fail
        refine ⟨⟨k + 1, by omega, by go_num, ?_⟩, by simp [intOf]; omega⟩
        rw [HT'.out]; go_num
      · obtain rfl : k = F.length := by omega
        rw [List.take_length]
        clear hk hlt
        by_cases h1 : 65536 < 16 * F.length + total F
        · go_wp2_with fail
          go_ret
          exact ⟨rfl, Below.refl _ _⟩
        · by_cases h2 : 32 < F.length
          · go_wp2_with fail
            go_ret
            exact ⟨rfl, Below.refl _ _⟩
          · have HTT : Hid (F.length + total F ≤ 1000000) := by
              have : F.length + total F ≤ 1000000 := by omega
              exact this
            obtain ⟨tt, htt⟩ : ∃ x, total F = x := ⟨_, rfl⟩
            rw [htt] at h1 hT ⊢
            clear htt
            go_wp2_with fail
            go_loop [5] (fun i => ∃ k : Nat, k ≤ F.length ∧ i = .int .i64 k ∧ ∀ j, j < k → good (F.getD j ByteArray.empty).data.toList = true) (fun i => F.length - (intOf i).toNat)
            case atStart => exact ⟨0, by omega, rfl, fun j h => by omega⟩
            case round =>
              obtain ⟨k, hk, rfl, hg⟩ := hrel
              have HG : Hid (∀ j, j < k → good (F.getD j ByteArray.empty).data.toList = true) := hg
              clear hg
              by_cases hlt : k < F.length
              · obtain ⟨b, o, ha, hb, hc⟩ := HF.out (by omega)
                subst ha
                have hcell := hc k hlt
                have hxs : (F.getD k ByteArray.empty).size ≤ 2000000 := by
                  have e1 := total_take F k hlt
                  have e2 := total_le F (k + 1)
                  have e3 : F.length + total F ≤ 1000000 := HTT.out
                  omega
                obtain ⟨x, hx⟩ : ∃ x, F.getD k ByteArray.empty = x := ⟨_, rfl⟩
                rw [hx] at hcell hxs
                have HX : Hid (F.getD k ByteArray.empty = x) := hx
                clear hx hc hb
                go_wp2_with fail
                refine (valid_any x _ hxs).mono ?_
                rintro e w' ⟨⟨b', rfl, hb'⟩, hw⟩
                rw [hw]
                clear hw w'
                cases b'
                · clear hb'
                  go_wp2_with fail
                  go_ret
                  exact ⟨rfl, Below.refl _ _⟩
                · have HB : Hid (good x.data.toList = true) := hb' rfl
                  clear hb'
                  go_wp2_with fail
                  refine ⟨⟨k + 1, by omega, by go_num, fun j hj => ?_⟩, by simp [intOf]; omega⟩
                  by_cases e : j = k
                  · subst e; rw [HX.out]; exact HB.out
                  · exact HG.out j (by omega)
              · obtain rfl : k = F.length := by omega
                have HGD : Hid (∀ x ∈ F, good x.data.toList = true) := by
                  intro x hx
                  obtain ⟨j, hj, e⟩ := List.getElem_of_mem hx
                  have := HG.out j hj
                  rw [List.getD_eq_getElem?_getD, List.getElem?_eq_getElem hj] at this
                  rw [← e]; exact this
                clear HG hk hlt h1 hT
                have HCL : Hid (Calls Try.prog 9 #[.slice a F.length cap] w fun e w' => (∃ a' c, e = .returned (.slice a' F.length c) ∧ Nc w' w.heap.size a' F) ∧ Below w.heap.size w w') := clone_any w a cap F HF.out (by omega)
                go_wp2_with fail
                refine (HCL.out).mono ?_
                rintro e w1 ⟨⟨a', c, rfl, hnc⟩, hb1⟩
                clear HCL HF
                obtain ⟨w2, m1, m2, m3, m4⟩ := madeP (F.length + 1) w1 (by omega)
                obtain ⟨w3, n1, n2, n3, n4⟩ := madeP F.length w2 (by omega)
                obtain ⟨w4, o1, o2, o3, o4⟩ := madeP F.length w3 (by omega)
                obtain ⟨w5, p1, p2, p3, p4⟩ := madeS (F.length + 1) w4 (by omega)
                have m1' : (Instr.makeSlice 26 (.int .i64 ((F.length : Int) + 1)) (.int .i64 ((F.length : Int) + 1))).run Try.prog w1 = .ok (.slice (some ⟨w1.heap.size, 0, none⟩) (F.length + 1) (F.length + 1)) w2 := m1
                have p1' : (Instr.makeSlice 22 (.int .i64 ((F.length : Int) + 1)) (.int .i64 ((F.length : Int) + 1))).run Try.prog w4 = .ok (.slice (some ⟨w4.heap.size, 0, none⟩) (F.length + 1) (F.length + 1)) w5 := p1
                clear m1 p1
                have HN : Hid (Nc w1 w.heap.size a' F ∧ Below w.heap.size w w1) := ⟨hnc, hb1⟩
                have HM : Hid (Rw w2 w1.heap.size (List.replicate (F.length + 1) (.pointer none)) ∧ Below w1.heap.size w1 w2 ∧ w2.heap.size = w1.heap.size + 1) := ⟨m2, m3, m4⟩
                have HNN : Hid (Rw w3 w2.heap.size (List.replicate F.length (.pointer none)) ∧ Below w2.heap.size w2 w3 ∧ w3.heap.size = w2.heap.size + 1) := ⟨n2, n3, n4⟩
                have HO : Hid (Rw w4 w3.heap.size (List.replicate F.length (.pointer none)) ∧ Below w3.heap.size w3 w4 ∧ w4.heap.size = w3.heap.size + 1) := ⟨o2, o3, o4⟩
                have HP : Hid (Rw w5 w4.heap.size (List.replicate (F.length + 1) (.string ByteArray.empty)) ∧ Below w4.heap.size w4 w5 ∧ w5.heap.size = w4.heap.size + 1) := ⟨p2, p3, p4⟩
                clear hnc hb1 m2 m3 m4 n2 n3 n4 o2 o3 o4 p2 p3 p4
                go_wp2_with fail
                refine (newDir_any w5).mono ?_
                rintro e w6 ⟨rfl, hd6, _, hb6⟩
                obtain ⟨⟨v1, q1⟩, q2, ⟨v2, q3⟩, q4, hst⟩ := St.start HN.out HM.out HNN.out HO.out HP.out hd6 hb6
                clear HN HM HNN HO HP hd6 hb6 m1' p1' n1 o1
                generalize w1.heap.size = bd at q1 q2 q3 q4 hst ⊢
                generalize w2.heap.size = bs at q1 q2 q3 q4 hst ⊢
                generalize w3.heap.size = bf at q1 q2 q3 q4 hst ⊢
                generalize w4.heap.size = bw at q1 q2 q3 q4 hst ⊢
                generalize w5.heap.size = r0 at q1 q2 q3 q4 hst ⊢
                have HS : Hid (St w F a' bd bs bf bw r0 0 [] ((w6.setCell ⟨bd, 0, none⟩ (ptr r0)).setCell ⟨bw, 0, none⟩ (.string ⟨#[47]⟩))) := hst
                clear hst
                go_wp2_with fail
                go_loopw [11] (fun i wr => ∃ (k : Nat) (ls : List Lev), k ≤ F.length ∧ i = .int .i64 k ∧ St w F a' bd bs bf bw r0 k ls wr) (fun i _ => F.length - (intOf i).toNat)
                case atStart => exact ⟨0, [], by omega, rfl, HS.out⟩
                case round =>
                  clear HS
                  obtain ⟨k, ls, hk, rfl, hst⟩ := hrel
                  by_cases hlt : k < F.length
                  · obtain ⟨bn, ha, hbn, _, _⟩ := hst.cells hlt (Below.refl _ wr)
                    subst ha
                    have HS : Hid (St w F (some ⟨bn, 0, none⟩) bd bs bf bw r0 k ls wr) := hst
                    have hel : last r0 ls < wr.heap.size := hst.ch.lt _ (last_mem _ _)
                    have HBW : Hid (bw < last r0 ls) := hst.lo _ (last_mem _ _)
                    have HE : Hid (Nd wr (last r0 ls) DIR none false) := hst.ch.last_nd
                    have HL1 : Hid (∀ (x : ByteArray) (c : Nat) (W : World), G3 wr (last r0 ls) W → Calls Try.prog 12 #[ptr (last r0 ls), .string x, ptr c] W fun x' W' => x' = .returned (.tuple #[]) ∧ G4 wr (last r0 ls) #[⟨.string x, ptr c, 0⟩] 1 W') := fun x c W h => link1 wr _ x c W h hel
                    have HC : Hid (∀ W, Gr wr (last r0 ls) W → W.cell? ⟨bn, k, none⟩ = some (.string (F.getD k ByteArray.empty)) ∧ W.cell? ⟨bd, k, none⟩ = some (ptr (last r0 ls))) := fun W hg => by
                      obtain ⟨b, h1, _, h3, h4⟩ := HS.out.cells hlt (hg.bel (bw + 1) HBW.out)
                      cases h1
                      exact ⟨h3, h4⟩
                    have HL2a : Hid (∀ (x : ByteArray) (c c' : Nat) (W : World), G4 wr (last r0 ls) #[⟨.string x, ptr c, 0⟩] 1 W → Calls Try.prog 12 #[ptr (last r0 ls), .string (x ++ ⟨#[35]⟩), ptr c'] W fun x' W' => x' = .returned (.tuple #[]) ∧ G4 wr (last r0 ls) #[⟨.string x, ptr c, 0⟩, ⟨.string (x ++ ⟨#[35]⟩), ptr c', 1⟩] 2 W') := fun x c c' W h => link2a wr _ x c c' W h hel
                    have HL2b : Hid (∀ (x : ByteArray) (c c' c'' : Nat) (W : World), G4 wr (last r0 ls) #[⟨.string x, ptr c, 0⟩, ⟨.string (x ++ ⟨#[35]⟩), ptr c', 1⟩] 2 W → Calls Try.prog 12 #[ptr (last r0 ls), .string (x ++ ⟨#[126]⟩), ptr c''] W fun x' W' => x' = .returned (.tuple #[]) ∧ G4 wr (last r0 ls) #[⟨.string x, ptr c, 0⟩, ⟨.string (x ++ ⟨#[35]⟩), ptr c', 1⟩, ⟨.string (x ++ ⟨#[126]⟩), ptr c'', 2⟩] 3 W') := fun x c c' c'' W h => link2b wr _ x c c' c'' W h hel
                    clear hst hel hbn
                    obtain ⟨e0, he0⟩ : ∃ x, last r0 ls = x := ⟨_, rfl⟩
                    rw [he0] at HBW HE HL1 HL2a HL2b HC
                    have hns := name_size F k hlt
                    have hws := wantB_size F k
                    have hTT : F.length + total F ≤ 1000000 := HTT.out
                    obtain ⟨n, hn⟩ : ∃ x, F.getD k ByteArray.empty = x := ⟨_, rfl⟩
                    rw [hn] at HC hns
                    have hns' : n.size ≤ 1000000 := by omega
                    have HWS : Hid ((wantB F k).size ≤ 1000001) := by
                      have : (wantB F k).size ≤ 1000001 := by omega
                      exact this
                    clear hns hws hTT
                    have HN0 : Hid (F.getD k ByteArray.empty = n) := hn
                    have HE0 : Hid (last r0 ls = e0) := he0
                    clear hn he0
                    go_wp2_with fail
                    refine (newDir_any wr).mono ?_
                    rintro e w1 ⟨rfl, a1, a2, a3⟩
                    have H1 : Hid (Nd w1 wr.heap.size DIR none false ∧ w1.heap.size = wr.heap.size + 1 ∧ Below wr.heap.size wr w1) := ⟨a1, a2, a3⟩
                    clear a1 a2 a3
                    go_wp2_with fail
                    refine (newDir_any w1).mono ?_
                    rintro e w2 ⟨rfl, b1, b2, b3⟩
                    have H2 : Hid (Nd w2 w1.heap.size DIR none false ∧ w2.heap.size = w1.heap.size + 1 ∧ Below w1.heap.size w1 w2) := ⟨b1, b2, b3⟩
                    clear b1 b2 b3
                    go_wp2_with fail
                    refine (newFile_any w2).mono ?_
                    rintro e w3 ⟨rfl, c1, c2, c3⟩
                    have hg3 : G3 wr e0 w3 := G3.make HE.out H1.out.1 H1.out.2.1 H1.out.2.2 H2.out.1 H2.out.2.1 H2.out.2.2 c1 c2 c3
                    have e2 : w2.heap.size = wr.heap.size + 2 := by rw [H2.out.2.1, H1.out.2.1]
                    have e1 : w1.heap.size = wr.heap.size + 1 := H1.out.2.1
                    clear H1 H2 c1 c2 c3
                    rw [e1, e2]
                    clear e1 e2
                    obtain ⟨hcn, hcd⟩ := HC.out w3 hg3.1
                    have HG3 : Hid (G3 wr e0 w3) := hg3
                    clear hg3
                    go_upto_region 29 with fail
                    go_cut [] from 92 to 166 (fun wc => G4 wr e0 #[⟨.string n, ptr wr.heap.size, 0⟩] 1 wc)
                    case first =>
                      go_region_with (go_at_call 12; refine (HL1.out n wr.heap.size _ ?_).mono ?_; exact G3.like HG3.out rfl rfl rfl rfl; rintro e w' ⟨rfl, hg⟩)
                      all_goals
                        go_wp2_with fail
                        go_meet
                        exact hg
                    case rest =>
                      clear hcn hcd HG3 HL1 HE
                      obtain ⟨hcn, hcd⟩ := HC.out wc hcut.1
                      have HG4 : Hid (G4 wr e0 #[⟨.string n, ptr wr.heap.size, 0⟩] 1 wc) := hcut
                      clear hcut
                      obtain ⟨wa, hwa⟩ : ∃ x, x = wc := ⟨_, rfl⟩
                      subst hwa
                      go_upto_region 30 with fail
                      go_cut [] from 92 to 166 (fun wc => G4 wr e0 #[⟨.string n, ptr wr.heap.size, 0⟩, ⟨.string (n ++ ⟨#[35]⟩), ptr (wr.heap.size + 1), 1⟩] 2 wc)
                      case first =>
                        go_region_with (go_at_call 12; refine (HL2a.out n wr.heap.size (wr.heap.size + 1) _ ?_).mono ?_; exact G4.like HG4.out rfl rfl rfl rfl; rintro e w' ⟨rfl, hg⟩)
                        all_goals
                          go_wp2_with fail
                          go_meet
                          exact hg
                      case rest =>
                        clear hcn hcd HG4
                        obtain ⟨hcn, hcd⟩ := HC.out wc hcut.1
                        have HG4 : Hid (G4 wr e0 #[⟨.string n, ptr wr.heap.size, 0⟩, ⟨.string (n ++ ⟨#[35]⟩), ptr (wr.heap.size + 1), 1⟩] 2 wc) := hcut
                        clear hcut
                        obtain ⟨wb, hwb⟩ : ∃ x, x = wc := ⟨_, rfl⟩
                        subst hwb
                        go_upto_region 31 with fail
                        go_cut [] from 92 to 166 (fun wc => G4 wr e0 #[⟨.string n, ptr wr.heap.size, 0⟩, ⟨.string (n ++ ⟨#[35]⟩), ptr (wr.heap.size + 1), 1⟩, ⟨.string (n ++ ⟨#[126]⟩), ptr (wr.heap.size + 2), 2⟩] 3 wc)
                        case first =>
                          go_region_with (go_at_call 12; refine (HL2b.out n wr.heap.size (wr.heap.size + 1) (wr.heap.size + 2) _ ?_).mono ?_; exact G4.like HG4.out rfl rfl rfl rfl; rintro e w' ⟨rfl, hg⟩)
                          all_goals
                            go_wp2_with fail
                            go_meet
                            exact hg
                        case rest =>
                          clear hcn hcd HG4 HL2a HL2b
                          obtain ⟨⟨⟨v3, s1⟩, t1⟩, ⟨⟨v4, s2⟩, t2⟩, ⟨⟨v5, s3⟩, t3⟩, ⟨⟨v6, s4⟩, t4⟩, s5, s6⟩ := HS.out.stores hlt (hcut.1.bel (bw + 1) HBW.out) (ptr wr.heap.size) (ptr (wr.heap.size + 1)) (ptr (wr.heap.size + 2))
                          have s7 := s6 bn rfl
                          rw [HN0.out] at s7
                          have HEND : Hid (∀ W' : World, W'.heap = ((((wc.setCell ⟨bd, k + 1, none⟩ (ptr wr.heap.size)).setCell ⟨bs, k, none⟩ (ptr (wr.heap.size + 1))).setCell ⟨bf, k, none⟩ (ptr (wr.heap.size + 2))).setCell ⟨bw, k + 1, none⟩ (.string (wantB F (k + 1)))).heap →
                              W'.os = wc.os → W'.tape = wc.tape → W'.output = wc.output → ∃ ls', St w F (some ⟨bn, 0, none⟩) bd bs bf bw r0 (k + 1) ls' W') := fun W' e1 e2 e3 e4 =>
                            HS.out.stepAt hlt HN0.out HE0.out hcut e1 e2 e3 e4
                          clear s6 hcut HC HBW HS HE0
                          obtain ⟨wd, hwd⟩ : ∃ x, x = wc := ⟨_, rfl⟩
                          subst hwd
                          go_upto_region 33 with fail
                          obtain ⟨w7, hw7⟩ : ∃ x, x = wd.setCell ⟨bd, k + 1, none⟩ (ptr wr.heap.size) := ⟨_, rfl⟩
                          rw [← hw7] at s2 t2 s3 t3 s4 t4 s5 s7 HEND ⊢
                          have HO7 : Hid (w7.os = wd.os ∧ w7.tape = wd.tape ∧ w7.output = wd.output) := by rw [hw7]; exact ⟨rfl, rfl, rfl⟩
                          clear hw7 s1 t1
                          go_upto_region 34 with fail
                          obtain ⟨w8, hw8⟩ : ∃ x, x = w7.setCell ⟨bs, k, none⟩ (ptr (wr.heap.size + 1)) := ⟨_, rfl⟩
                          rw [← hw8] at s3 t3 s4 t4 s5 s7 HEND ⊢
                          have HO8 : Hid (w8.os = wd.os ∧ w8.tape = wd.tape ∧ w8.output = wd.output) := by rw [hw8]; exact HO7.out
                          clear hw8 s2 t2
                          go_upto_region 35 with fail
                          obtain ⟨w9, hw9⟩ : ∃ x, x = w8.setCell ⟨bf, k, none⟩ (ptr (wr.heap.size + 2)) := ⟨_, rfl⟩
                          rw [← hw9] at s4 t4 s5 s7 HEND ⊢
                          have HO9 : Hid (w9.os = wd.os ∧ w9.tape = wd.tape ∧ w9.output = wd.output) := by rw [hw9]; exact HO8.out
                          clear hw9 s3 t3 HO7 HO8
                          by_cases h0 : k = 0
                          · subst h0
                            have HW : Hid ((⟨#[47]⟩ : ByteArray) ++ n = wantB F 1) := by rw [← HN0.out]; exact wantB_one F hlt
                            clear s5 HWS
                            go_wp2_with fail
                            exact (HEND.out _ (by rw [← HW.out]) (by exact HO9.out.1) (by exact HO9.out.2.1) (by exact HO9.out.2.2)).elim fun ls' hS => ⟨⟨1, ls', by omega, rfl, hS⟩, by simp [intOf]; omega⟩
                          · have hk0 : (((k : Int)) == 0) = false := by simp; omega
                            have HW : Hid ((wantB F k ++ ⟨#[47]⟩) ++ n = wantB F (k + 1)) := by rw [← HN0.out]; exact wantB_succ F k hlt h0
                            have hws := HWS.out
                            obtain ⟨wk, hwk⟩ : ∃ x, wantB F k = x := ⟨_, rfl⟩
                            rw [hwk] at hws s5 HW
                            clear hwk HWS
                            go_upto_region 37 with fail
                            go_region
                            all_goals
                              go_wp2_with fail
                              exact (HEND.out _ (by rw [← HW.out]; rfl) (by exact HO9.out.1) (by exact HO9.out.2.1) (by exact HO9.out.2.2)).elim fun ls' hS => ⟨⟨k + 1, ls', by omega, by go_num, hS⟩, by simp [intOf]; omega⟩
                  · obtain rfl : k = F.length := by omega
                    have hmid : Mid w F a' bd bs bf bw r0 ls wr := hst.mid HGD.out HTT.out
                    clear hst hk hlt HTT HGD
                    obtain ⟨w7, hw7⟩ : ∃ x, x = wr := ⟨_, rfl⟩
                    subst hw7
                    have hr0 := hmid.fa.rd 0 (by omega)
                    rw [D_zero] at hr0
                    have HX : Hid (Mid w F a' bd bs bf bw r0 ls w7) := hmid
                    clear hmid
                    go_wp2_with fail
                    go_loopw [16] (fun i wr => ∃ k : Nat, k ≤ F.length + 1 ∧ i = .int .i64 k ∧ Mid w F a' bd bs bf bw r0 ls wr) (fun i _ => F.length + 1 - (intOf i).toNat)
                    case atStart => exact ⟨0, by omega, rfl, HX.out⟩
                    case round =>
                      clear HX hr0
                      obtain ⟨k, hk, rfl, hmid⟩ := hrel
                      have HX : Hid (Mid w F a' bd bs bf bw r0 ls wr) := hmid
                      by_cases hlt : k ≤ F.length
                      · have hcd := hmid.fa.rd k hlt
                        have HNm : Hid (Calls Try.prog 13 #[ptr r0, ptr (D r0 ls k)] wr fun e w' => e = .returned (.tuple #[.string (wantB F k), .bool true]) ∧ Mid w F a' bd bs bf bw r0 ls w') := (hmid.be.name k hlt).mono fun e w' ⟨h1, h2⟩ => ⟨h1, hmid.below h2⟩
                        clear hmid
                        obtain ⟨wk, hwk⟩ : ∃ x, wantB F k = x := ⟨_, rfl⟩
                        rw [hwk] at HNm
                        obtain ⟨dk, hdk⟩ : ∃ x, D r0 ls k = x := ⟨_, rfl⟩
                        rw [hdk] at HNm hcd
                        have b1 := ba_self wk
                        have b2 := ba_bne wk
                        have HK : Hid (∀ W, Mid w F a' bd bs bf bw r0 ls W → W.cell? ⟨bd, k, none⟩ = some (ptr dk) ∧ W.cell? ⟨bw, k, none⟩ = some (.string wk) ∧ Calls Try.prog 14 #[ptr dk] W fun e w' => e = .returned (.bool false) ∧ w' = W) := fun W h => by
                          refine ⟨hdk ▸ h.fa.rd k hlt, hwk ▸ h.fa.rw_ k hlt, hdk ▸ h.be.removed k hlt⟩
                        clear hwk hdk
                        go_wp2_with fail
                        refine (HNm.out).mono ?_
                        rintro e w8 ⟨rfl, hm8⟩
                        obtain ⟨c1, c2, c3⟩ := HK.out w8 hm8
                        have H8 : Hid (Mid w F a' bd bs bf bw r0 ls w8) := hm8
                        have HC3 : Hid (Calls Try.prog 14 #[ptr dk] w8 fun e w' => e = .returned (.bool false) ∧ w' = w8) := c3
                        clear hm8 c3 hcd HNm HK
                        go_wp2_with fail
                        refine (HC3.out).mono ?_
                        rintro e w9 ⟨rfl, hw9⟩
                        rw [hw9]
                        clear hw9 w9
                        go_wp2_with fail
                        exact ⟨⟨k + 1, by omega, by go_num, H8.out⟩, by simp [intOf]; omega⟩
                      · clear hmid hk
                        go_wp2_with fail
                        refine (newDir_any wr).mono ?_
                        rintro e w10 ⟨rfl, hd10, _, hb10⟩
                        have hm10 : Mid w F a' bd bs bf bw r0 ls w10 := HX.out.below hb10
                        have HStr : Hid (Calls Try.prog 13 #[ptr r0, ptr wr.heap.size] w10 fun e w' => e = .returned (.tuple #[.string ⟨#[]⟩, .bool false]) ∧ Mid w F a' bd bs bf bw r0 ls w') :=
                          (hm10.be.stranger wr.heap.size (fun h => Nat.lt_irrefl _ (HX.out.be.ch.lt _ h)) hd10).mono fun e w' ⟨h1, h2⟩ => ⟨h1, hm10.below h2⟩
                        clear hd10 hb10 hm10 HX
                        generalize wr.heap.size = st at HStr ⊢
                        go_wp2_with fail
                        refine (HStr.out).mono ?_
                        rintro e w11 ⟨rfl, hm11⟩
                        have HX : Hid (Mid w F a' bd bs bf bw r0 ls w11) := hm11
                        clear hm11 HStr
                        go_wp2_with fail
                        go_loopw [22] (fun i wr => ∃ k : Nat, k ≤ F.length ∧ i = .int .i64 k ∧ Mid w F a' bd bs bf bw r0 ls wr) (fun i _ => F.length - (intOf i).toNat)
                        case atStart => exact ⟨0, by omega, rfl, HX.out⟩
                        case round =>
                          clear HX
                          obtain ⟨k, hk, rfl, hmid⟩ := hrel
                          by_cases hlt : k < F.length
                          · obtain ⟨bn, ha, _, hcn⟩ := hmid.fa.nc (by omega)
                            subst ha
                            have hc1 := hcn k hlt
                            have hc2 := hmid.fa.rd k (by omega)
                            have hns : (F.getD k ByteArray.empty).size ≤ 1000000 := by
                              have h1 := name_size F k hlt
                              have h2 := hmid.be.tl
                              omega
                            have HX : Hid (Mid w F (some ⟨bn, 0, none⟩) bd bs bf bw r0 ls wr) := hmid
                            obtain ⟨x, hx⟩ := miss (F.getD k ByteArray.empty ++ ⟨#[33]⟩) false
                            have HK : Hid (∀ W, Mid w F (some ⟨bn, 0, none⟩) bd bs bf bw r0 ls W → W.cell? ⟨bn, k, none⟩ = some (.string (F.getD k ByteArray.empty)) ∧ W.cell? ⟨bd, k, none⟩ = some (ptr (D r0 ls k)) ∧ W.cell? ⟨bd, k + 1, none⟩ = some (ptr (D r0 ls (k + 1))) ∧
                                (Calls Try.prog 15 #[ptr (D r0 ls k), .string (F.getD k ByteArray.empty)] W fun e w' => e = .returned (.tuple #[ptr (D r0 ls (k + 1)), .nilIface]) ∧ w' = W) ∧
                                (Calls Try.prog 15 #[ptr (D r0 ls k), .string (F.getD k ByteArray.empty ++ ⟨#[33]⟩)] W fun e w' => e = .returned (.tuple #[.pointer none, errno x]) ∧ w' = W)) := fun W h => by
                              refine ⟨?_, h.fa.rd k (by omega), h.fa.rd (k + 1) (by omega), h.be.child k hlt, Be.miss k hx h.be hlt⟩
                              obtain ⟨b, h1, _, h3⟩ := h.fa.nc (by omega)
                              cases h1
                              exact h3 k hlt
                            clear hmid hcn hx
                            obtain ⟨n, hn⟩ : ∃ x, F.getD k ByteArray.empty = x := ⟨_, rfl⟩
                            obtain ⟨dk, hdk⟩ : ∃ x, D r0 ls k = x := ⟨_, rfl⟩
                            obtain ⟨d1, hd1⟩ : ∃ x, D r0 ls (k + 1) = x := ⟨_, rfl⟩
                            rw [hn] at hc1 hns HK
                            rw [hdk] at hc2 HK
                            rw [hd1] at HK
                            clear hn hdk hd1
                            have HC1 : Hid (∀ q, Calls Try.prog 15 #[ptr dk, .string n] (wr.drewN q) fun e w' => e = .returned (.tuple #[ptr d1, .nilIface]) ∧ w' = wr.drewN q) := fun q => (HK.out _ (HX.out.drewN q)).2.2.2.1
                            go_upto_region 52 with fail
                            go_quiet ((go_at_call 15; exact Calls.quiet_of_same (HC1.out _)))
                            obtain ⟨wy, hwy⟩ : ∃ x, x = wr.drewN nq := ⟨_, rfl⟩
                            rw [← hwy]
                            have HY : Hid (Mid w F (some ⟨bn, 0, none⟩) bd bs bf bw r0 ls wy) := by rw [hwy]; exact HX.out.drewN nq
                            clear hwy hc1 hc2 HX HC1
                            obtain ⟨hc1, hc2, hc3, _, _⟩ := HK.out wy HY.out
                            have hq := ptr_neq_same wy d1
                            have HC2 : Hid (∀ q, Calls Try.prog 15 #[ptr dk, .string (n ++ ⟨#[33]⟩)] (wy.drewN q) fun e w' => e = .returned (.tuple #[.pointer none, errno x]) ∧ w' = wy.drewN q) := fun q => (HK.out _ (HY.out.drewN q)).2.2.2.2
                            go_upto_region 55 with fail
                            go_quiet ((go_at_call 15; exact Calls.quiet_of_same (HC2.out _)))
                            obtain ⟨wz, hwz⟩ : ∃ x, x = wy.drewN nq := ⟨_, rfl⟩
                            rw [← hwz]
                            have HZ : Hid (Mid w F (some ⟨bn, 0, none⟩) bd bs bf bw r0 ls wz) := by rw [hwz]; exact HY.out.drewN nq
                            clear hwz hc1 hc2 hc3 hq HY HC2 HK
                            go_wp2_with fail
                            exact ⟨⟨k + 1, by omega, by go_num, HZ.out⟩, by simp [intOf]; omega⟩
                          · obtain rfl : k = F.length := by omega
                            have HD : Hid (Calls Try.prog 16 #[ptr r0] wr fun e w' => e = .returned (.tuple #[]) ∧ End w F a' bd bs bf bw r0 ls w') := hmid.detach
                            clear hmid hk hlt
                            go_wp2_with fail
                            refine (HD.out).mono ?_
                            rintro e w12 ⟨rfl, hend⟩
                            have HX : Hid (End w F a' bd bs bf bw r0 ls w12) := hend
                            clear hend HD
                            go_wp2_with fail
                            go_loopw [27] (fun i wr => ∃ k : Nat, k ≤ F.length + 1 ∧ i = .int .i64 k ∧ End w F a' bd bs bf bw r0 ls wr) (fun i _ => F.length + 1 - (intOf i).toNat)
                            case atStart => exact ⟨0, by omega, rfl, HX.out⟩
                            case round =>
                              clear HX
                              obtain ⟨k, hk, rfl, hend⟩ := hrel
                              by_cases hlt : k ≤ F.length
                              · have hc2 := hend.fa.rd k hlt
                                have H1 : Hid (Calls Try.prog 14 #[ptr (D r0 ls k)] wr fun e w' => e = .returned (.bool true) ∧ w' = wr) := zremoved _ _ _ _ _ (hend.af.dn k hlt)
                                have H2 : Hid (Calls Try.prog 17 #[ptr (D r0 ls k)] wr fun e w' => e = .returned (.int .i64 0) ∧ w' = wr) := zcount _ _ _ _ (hend.af.dn k hlt)
                                have H3 : Hid (Calls Try.prog 13 #[ptr r0, ptr (D r0 ls k)] wr fun e w' => e = .returned (.tuple #[.string (if k = 0 then ⟨#[47]⟩ else ⟨#[]⟩), .bool (decide (k = 0))]) ∧ End w F a' bd bs bf bw r0 ls w') := (hend.af.name k hlt).mono fun e w' ⟨h1, h2⟩ => ⟨h1, hend.below h2⟩
                                clear hend
                                generalize D r0 ls k = dk at hc2 H1 H2 H3
                                by_cases h0 : k = 0
                                · subst h0
                                  go_wp2_with (first | (go_at_call 14; refine (H1.out).mono ?_; rintro e w' ⟨rfl, hw⟩; rw [hw]) | (go_at_call 17; refine (H2.out).mono ?_; rintro e w' ⟨rfl, hw⟩; rw [hw]))
                                  refine (H3.out).mono ?_
                                  rintro e w13 ⟨rfl, hend⟩
                                  have HX : Hid (End w F a' bd bs bf bw r0 ls w13) := hend
                                  clear hend
                                  go_wp2_with fail
                                  exact ⟨⟨1, by omega, rfl, HX.out⟩, by simp [intOf]⟩
                                · have hk0 : (((k : Int)) == 0) = false := by simp; omega
                                  have hd0 : decide (k = 0) = false := decide_eq_false h0
                                  rw [hd0] at H3
                                  go_wp2_with (first | (go_at_call 14; refine (H1.out).mono ?_; rintro e w' ⟨rfl, hw⟩; rw [hw]) | (go_at_call 17; refine (H2.out).mono ?_; rintro e w' ⟨rfl, hw⟩; rw [hw]))
                                  refine (H3.out).mono ?_
                                  rintro e w13 ⟨rfl, hend⟩
                                  have HX : Hid (End w F a' bd bs bf bw r0 ls w13) := hend
                                  clear hend
                                  go_wp2_with fail
                                  exact ⟨⟨k + 1, by omega, by go_num, HX.out⟩, by simp [intOf]; omega⟩
                              · have HX : Hid (End w F a' bd bs bf bw r0 ls wr) := hend
                                clear hend hk
                                go_wp2_with fail
                                go_loopw [30] (fun i wr => ∃ k : Nat, k ≤ F.length ∧ i = .int .i64 k ∧ End w F a' bd bs bf bw r0 ls wr) (fun i _ => F.length - (intOf i).toNat)
                                case atStart => exact ⟨0, by omega, rfl, HX.out⟩
                                case round =>
                                  clear HX
                                  obtain ⟨k, hk, rfl, hend⟩ := hrel
                                  by_cases hlt : k < F.length
                                  · obtain ⟨bn, ha, _, hcn⟩ := hend.fa.nc (by omega)
                                    subst ha
                                    have hc1 := hcn k hlt
                                    have hc2 := hend.fa.rd k (by omega)
                                    have hc3 := hend.fa.rs k hlt
                                    have hc4 := hend.fa.rf k hlt
                                    have H1 : Hid (Calls Try.prog 14 #[ptr (S ls k)] wr fun e w' => e = .returned (.bool true) ∧ w' = wr) := zremoved _ _ _ _ _ (hend.af.sn k hlt)
                                    have H2 : Hid (Calls Try.prog 14 #[ptr (Fl ls k)] wr fun e w' => e = .returned (.bool false) ∧ w' = wr) := zremoved _ _ _ _ _ (hend.af.fn k hlt)
                                    have HX : Hid (End w F (some ⟨bn, 0, none⟩) bd bs bf bw r0 ls wr) := hend
                                    obtain ⟨x, hx⟩ := miss (F.getD k ByteArray.empty) true
                                    have HK : Hid (∀ q, Calls Try.prog 15 #[ptr (D r0 ls k), .string (F.getD k ByteArray.empty)] (wr.drewN q) fun e w' => e = .returned (.tuple #[.pointer none, errno x]) ∧ w' = wr.drewN q) := fun q => zmiss hx _ _ _ _ ((hend.drewN q).af.dn k (by omega)) (run_get_nil _ _)
                                    clear hx
                                    clear hend hcn
                                    obtain ⟨n, hn⟩ : ∃ x, F.getD k ByteArray.empty = x := ⟨_, rfl⟩
                                    obtain ⟨dk, hdk⟩ : ∃ x, D r0 ls k = x := ⟨_, rfl⟩
                                    obtain ⟨sk, hsk⟩ : ∃ x, S ls k = x := ⟨_, rfl⟩
                                    obtain ⟨fk, hfk⟩ : ∃ x, Fl ls k = x := ⟨_, rfl⟩
                                    rw [hn] at hc1 HK
                                    rw [hdk] at hc2 HK
                                    rw [hsk] at hc3 H1
                                    rw [hfk] at hc4 H2
                                    clear hn hdk hsk hfk
                                    go_wp2_with fail
                                    refine (H1.out).mono ?_
                                    rintro e w' ⟨rfl, hw⟩
                                    rw [hw]
                                    clear hw w'
                                    go_wp2_with fail
                                    refine (H2.out).mono ?_
                                    rintro e w' ⟨rfl, hw⟩
                                    rw [hw]
                                    clear hw w'
                                    go_upto_region 72 with fail
                                    go_quiet ((go_at_call 15; exact Calls.quiet_of_same (HK.out _)))
                                    obtain ⟨wz, hwz⟩ : ∃ x, x = wr.drewN nq := ⟨_, rfl⟩
                                    rw [← hwz]
                                    have HZ : Hid (End w F (some ⟨bn, 0, none⟩) bd bs bf bw r0 ls wz) := by rw [hwz]; exact HX.out.drewN nq
                                    clear hwz hc1 hc2 hc3 hc4 HX HK
                                    go_wp2_with fail
                                    exact ⟨⟨k + 1, by omega, by go_num, HZ.out⟩, by simp [intOf]; omega⟩
                                  · obtain rfl : k = F.length := by omega
                                    have H3 : Hid (Calls Try.prog 13 #[ptr r0, ptr r0] wr fun e w' => e = .returned (.tuple #[.string ⟨#[47]⟩, .bool true]) ∧ End w F a' bd bs bf bw r0 ls w') := by
                                      have h := (hend.af.name 0 (by omega))
                                      rw [D_zero] at h
                                      exact h.mono fun e w' ⟨h1, h2⟩ => ⟨h1, hend.below h2⟩
                                    clear hend
                                    go_wp2_with fail
                                    refine (H3.out).mono ?_
                                    rintro e w14 ⟨rfl, hend⟩
                                    have HX : Hid (End w F a' bd bs bf bw r0 ls w14) := hend
                                    clear hend
                                    go_wp2_with fail
                                    go_ret
                                    exact ⟨rfl, HX.out.bel⟩

end Go.Proofs.Qxb6003812a.chain
