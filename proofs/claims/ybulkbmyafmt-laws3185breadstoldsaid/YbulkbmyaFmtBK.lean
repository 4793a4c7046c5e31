/- tiergate.LawS3185BReads: the law's own walk. -/
import Derived.Test.YbulkbmyaFmtBP
import Derived.Deep.DeepCutAuto
import Derived.BigQuiet
import Derived.Deep.QuietTactic
import Derived.WalkSmall
namespace Go.Proofs.YbulkbmyaFmt.lawS3185BReads
open Go.RowKit Go.Maps Go.Extern.Stop Go.Stop Go.Extern
open Go.Proofs.YbulkbmyaFmt.lawS3185AReads (mpath nil_of_isEmpty anyElem law9 key key_inj key_of isKey)
set_option linter.unusedVariables false

set_option maxHeartbeats 4000000 in
set_option maxRecDepth 100000 in
theorem core (F : Interp) (E : Ents) (N : List ByteArray) (na : Option Addr) (nn nc ecap : Nat) (path : ByteArray) (mode prior : Int) (w : World) (hF : Hid (F.answers w.tape)) (hE : Hid (E.In w)) (hN : Hid (StrsAt w na N)) (hNs : Hid (∀ s ∈ N, s.size ≤ maxLen)) (hNl : Hid (N.length = nn)) (hnn : nn ≤ 300) (hEn : E.n ≤ 300)
    (hm0 : 0 ≤ mode) (hm1 : mode ≤ 255) (hp0 : 0 ≤ prior) (hp1 : prior ≤ 255) (hpath : path.size ≤ 140737488355328) :
    Calls Ybaf.prog 4 #[.string path, .int .u8 mode, .int .u8 prior, .slice na nn nc, .slice E.a E.n ecap] w fun e w' => e = .returned (.bool true) ∧ Below w.heap.size w w' := by
  have hk1 := make41
  have hk2 := make26n
  obtain ⟨i9, hi9, hy0, hy1, hy2⟩ := info_parts info9b
  obtain ⟨i3, hi3, hx0, hx1, hx2⟩ := info_parts info3b
  obtain ⟨i20, hi20, hv0, hv1, hv2⟩ := info_parts info20b
  obtain ⟨i33, hi33, hu0, hu1, hu2⟩ := info_parts Go.Proofs.YbulkbmyaFmt.lawS3185AReads.info33
  obtain ⟨Ea, hEa⟩ : ∃ x, x = E.a := ⟨_, rfl⟩
  obtain ⟨ne, hne⟩ : ∃ x, x = E.n := ⟨_, rfl⟩
  have HEa : Hid (Ea = E.a) := hEa
  have HEn : Hid (ne = E.n) := hne
  rw [← hEa, ← hne]
  rw [← hne] at hEn
  clear hEa hne
  go_enter Ybaf.func4, Ybaf.ntmps4
  go_wp2_with fail
  go_loop [50] (fun i => ∃ k : Nat, k ≤ ne ∧ i = .int .i64 k ∧ ∀ j, j < k → E.el j ≤ 300) (fun i => ne - (intOf i).toNat)
  case atStart => exact ⟨0, Nat.zero_le _, rfl, fun j h => by omega⟩
  case round =>
    obtain ⟨k, hk, rfl, hall⟩ := hrel
    have HA : Hid (∀ j, j < k → E.el j ≤ 300) := hall
    clear hall
    by_cases hlt : k < ne
    · obtain ⟨b, o, ha, hb, e0, e1, e2⟩ := hE.out.row k (by rw [← HEn.out]; exact hlt)
      obtain rfl : Ea = some ⟨b, o, none⟩ := HEa.out.trans ha
      have hLk := hE.out.bigs k (by rw [← HEn.out]; exact hlt)
      have HLk : Hid (E.el k ≤ 300 → ∀ j, j < k + 1 → E.el j ≤ 300) := fun h j hj => by
        by_cases e : j = k
        · subst e; exact h
        · exact HA.out j (by omega)
      clear e0 e1 ha
      by_cases hL : 300 < E.el k
      · generalize E.el k = Lk at hL e2 hLk
        go_wp2_with fail
        go_ret
        exact ⟨rfl, Below.refl _ _⟩
      · have HL2 := HLk.out (by omega)
        have HL3 : Hid (∀ j, j < k + 1 → E.el j ≤ 300) := HL2
        clear HL2 HLk
        generalize E.el k = Lk at hL e2 hLk
        go_wp2_with fail
        go_round
        case rel => exact ⟨k + 1, by omega, by go_num, HL3.out⟩
        case measure => simp [intOf]; omega
    · obtain rfl : k = ne := by omega
      clear hlt hk
      go_wp2_with fail
      go_loopw [66] (fun i wr => ∃ (k : Nat) (D : DataW Value), k ≤ nn ∧ i = .int .i64 k ∧ RInv w N k D wr) (fun i _ => nn - (intOf i).toNat)
      case atStart => exact ⟨0, _, Nat.zero_le _, rfl, RInv.start w N⟩
      case round =>
        rename World => w0
        obtain ⟨i, D, hi, rfl, hinv⟩ := hrel
        by_cases hlt : i < nn
        · obtain ⟨b, o, rfl, hb, hc⟩ := (hN.out.below hinv.below) (by rw [hNl.out]; omega)
          have hc1 := hc i (by rw [hNl.out]; exact hlt)
          have hown := hinv.own
          have HI : Hid (RInv w N i D w0) := hinv
          obtain ⟨s, hs⟩ : ∃ s, N.getD i ⟨#[]⟩ = s := ⟨_, rfl⟩
          have hss : s.size ≤ maxLen := by
            rw [← hs]
            have hl : i < N.length := by rw [hNl.out]; exact hlt
            refine hNs.out _ ?_
            rw [List.getD_eq_getElem?_getD, List.getElem?_eq_getElem hl]
            exact List.getElem_mem _
          rw [hs] at hc1
          have HSe : Hid (N.getD i ⟨#[]⟩ = s) := hs
          clear hc hinv hs
          go_wp2_with (at_mapUpdate; refine wpList_mapUpdate_own _ rfl _ _ _ 41 rfl 9 44 law9 Ybaf.underlying41 anyElem w.heap.size i D rfl hown (by unfold maxLen; omega) _ _ _ rfl rfl (key_of s hss) _ [] rfl ?_; intro w1 hown1 hgrow1)
          go_roundw
          case rel => exact ⟨i + 1, _, by omega, by go_num, HI.out.step (by rw [hNl.out]; exact hlt) (by rw [HSe.out]; exact hown1) hgrow1⟩
          case measure => simp [intOf]; omega
        · obtain rfl : i = nn := by omega
          clear hlt hi
          have HR : Hid (RInv w N i D w0) := hinv
          clear hinv
          have hmade := World.ownsMap_made (H := Value) w0 Ybaf.prog 9 anyElem
          obtain ⟨mo3, hmo3⟩ : ∃ x, mode % 3 = x := ⟨_, rfl⟩
          have hm3 : mo3 = 0 ∨ mo3 = 1 ∨ mo3 = 2 := by omega
          go_upto_if 83 with (refine wpList_insert_own _ rfl _ _ _ 26 rfl 9 20 law9 Ybaf.underlying26 anyElem w0.heap.size 0 _ rfl hmade (by unfold maxLen; omega) _ _ _ rfl rfl (key_of OTH oth_size) _ [] rfl ?_; intro w2 hown2 hgrow2; clear hmade)
          go_cut [17, 18, 19, 20, 21, 22, 24] from 77 to 166 (fun vs vi _ _ _ _ _ wc => Stage w E N mo3 D w0.heap.size vs vi wc)
          case first =>
            as_aux_lemma =>
              have hb2 : Below w0.heap.size w0 w2 := ((Below.refl _ _).alloc (Nat.le_refl _) _).grown hgrow2 (by simp) (fun r e => by cases e; exact Nat.le_refl _)
              have HS0 : Hid (RInv w N i D w2) := HR.out.keep hb2
              have HB : Hid (Below w2.heap.size w2 ((w2.alloc (.cells #[] 9)).alloc (.cells #[] 3))) := ((Below.refl _ _).alloc (Nat.le_refl _) _).alloc (by simp) _
              clear hb2 hgrow2
              try rw [hmo3]
              clear hmo3
              rcases hm3 with rfl | rfl | rfl
              · go_wp2_with fail
                go_meet
                case rel => exact Stage.zero HS0.out HB.out hnn hown2
              · go_wp2_with (at_mapUpdate; refine wpList_mapUpdate_own _ rfl _ _ _ 26 rfl 9 20 law9 Ybaf.underlying26 anyElem w0.heap.size 1 _ rfl (owns_map_block hown2 (HB.out.block _ hown2.lt)) (by unfold maxLen; omega) _ _ _ rfl rfl (key_of ASG asg_size) _ [] rfl ?_; intro w3 hown3 hgrow3)
                go_meet
                case rel => exact Stage.one HS0.out HB.out hnn hown2 HR.out.hi hown3 hgrow3
              · have HO0 := OInv.start (E := E) HS0.out.below (HS0.out.own.mono hnn) hown2
                have HO1 : Hid (OInv w E w.heap.size w0.heap.size (w2.heap.size + 2) D _ (.map []) (.slice (some ⟨w2.heap.size, 0, none⟩) 0 0) (.slice (some ⟨w2.heap.size + 1, 0, none⟩) 0 0) [] (((w2.alloc (.cells #[] 9)).alloc (.cells #[] 3)).alloc (.map #[] 0))) := HO0
                clear HO0
                simp only [show ((2 : Int) == 1) = false from rfl]
                go_wp2_with fail
                go_loopw [17, 18, 91] (fun vs vi i wr => ∃ (q g c g' c' : Nat) (DM : DataW Value) (ix : List Nat), q ≤ k ∧ i = .int .i64 q ∧ ix.length ≤ q ∧ vs = .slice (some ⟨g, 0, none⟩) ix.length c ∧ vi = .slice (some ⟨g', 0, none⟩) ix.length c' ∧ OInv w E w.heap.size w0.heap.size (w2.heap.size + 2) D ((DataW.map []).put (key OTH) (.held (.iface 9 (.string ⟨#[120]⟩)))) DM vs vi ix wr) (fun _ _ i _ => k - (intOf i).toNat)
                case atStart => exact ⟨0, _, _, _, _, _, [], Nat.zero_le _, rfl, Nat.le_refl _, rfl, rfl, HO1.out⟩
                case round =>
                  as_aux_lemma =>
                    rename World => wr0
                    clear HO1
                    obtain ⟨q, g, c, g', c', DM, ix, hq, rfl, hixq, rfl, rfl, hO⟩ := hrel
                    have HOv : Hid (OInv w E w.heap.size w0.heap.size (w2.heap.size + 2) D ((DataW.map []).put (key OTH) (.held (.iface 9 (.string ⟨#[120]⟩)))) DM (.slice (some ⟨g, 0, none⟩) ix.length c) (.slice (some ⟨g', 0, none⟩) ix.length c') ix wr0) := hO
                    clear hO
                    by_cases hlt : q < k
                    · have hqn : q < E.n := by rw [← HEn.out]; exact hlt
                      have hEr : E.In wr0 := hE.out.below HOv.out.below
                      obtain ⟨b, o, ha, hb, e0, e1, e2⟩ := hEr.row q hqn
                      obtain rfl : Ea = some ⟨b, o, none⟩ := HEa.out.trans ha
                      obtain ⟨hd0, hd1⟩ := hEr.kd q hqn
                      have hkz := hEr.ksz q hqn
                      have hLk := HA.out q hlt
                      obtain ⟨kk, hkk⟩ : ∃ x, E.K q = x := ⟨_, rfl⟩
                      obtain ⟨d, hd⟩ : ∃ x, E.kd q = x := ⟨_, rfl⟩
                      obtain ⟨la, hla⟩ : ∃ x, E.ea q = x := ⟨_, rfl⟩
                      obtain ⟨Lk, hLe⟩ : ∃ x, E.el q = x := ⟨_, rfl⟩
                      obtain ⟨lc, hlc⟩ : ∃ x, E.ec q = x := ⟨_, rfl⟩
                      rw [hkk] at e0 hkz
                      rw [hd] at e1 hd0 hd1
                      rw [hla, hLe, hlc] at e2
                      rw [hLe] at hLk
                      have HKe : Hid (E.K q = kk) := hkk
                      have HDe : Hid (E.kd q = d) := hd
                      have HLa : Hid (E.ea q = la) := hla
                      have HLe : Hid (E.el q = Lk) := hLe
                      have hkm : kk.size ≤ maxLen := by unfold maxLen; omega
                      have hb1 : Below wr0.heap.size wr0 (wr0.alloc (.cells #[.string kk, .int .u8 d, .slice la Lk lc] 40)) := (Below.refl _ _).alloc (Nat.le_refl _) _
                      have HO2 : Hid (OInv w E w.heap.size w0.heap.size (w2.heap.size + 2) D ((DataW.map []).put (key OTH) (.held (.iface 9 (.string ⟨#[120]⟩)))) DM (.slice (some ⟨g, 0, none⟩) ix.length c) (.slice (some ⟨g', 0, none⟩) ix.length c') ix (wr0.alloc (.cells #[.string kk, .int .u8 d, .slice la Lk lc] 40))) := HOv.out.keep hb1
                      have hb40 := World.alloc_heap_new wr0 (.cells #[.string kk, .int .u8 d, .slice la Lk lc] 40)
                      clear hEr ha hkk hd hla hLe hlc hb1
                      by_cases hin : kk ∈ ix.map E.K
                      · have HIN : Hid (kk ∈ ix.map E.K) := hin
                        clear hin
                        go_wp2_with (go_at_call 7; refine (bhas_yes (some ⟨g, 0, none⟩) c ix.length (ix.map E.K) kk _ (by simp) (by omega) HO2.out.strs HIN.out).mono ?_; rintro e w' ⟨rfl, rfl⟩)
                        go_roundw
                        case rel => exact ⟨q + 1, g, c, g', c', DM, ix, by omega, by go_num, by omega, rfl, rfl, HO2.out⟩
                        case measure => simp [intOf]; omega
                      · have HNEW : Hid (∀ i ∈ ix, E.K i ≠ E.K q) := fun i hi e => hin (List.mem_map.2 ⟨i, hi, e.trans HKe.out⟩)
                        rcases (show d % 3 = 0 ∨ d % 3 = 1 ∨ d % 3 = 2 by omega) with hc | hc | hc
                        · as_aux_lemma =>
                            have n0 : (d % 3 == 0) = true := by simp; omega
                            have HJ : Hid (E.jv q = .arr (E.list q)) := show E.jv q = .arr (E.list q) by unfold Ents.jv; rw [HDe.out, if_pos hc]
                            clear hc
                            go_wp2_with (first
                            | (go_at_call 7; refine (bhas_no (some ⟨g, 0, none⟩) c ix.length (ix.map E.K) kk _ (by simp) (by omega) HO2.out.strs hin).mono ?_; rintro e w' ⟨rfl, rfl⟩)
                            | (at_builtin; refine wpList_append_lies _ rfl (.tmp 102) (.tmp 105) 36 rfl w.heap.size 9 i9 _ 1 16 Ybaf.underlying36 hi9 hy0 hy1 hy2 rfl (by omega) _ ix.length _ rfl (HO2.out.seen.alloc _) ⟨wr0.heap.size + 1, 0, none⟩ 1 1 [.string kk] rfl rfl (by have hnb := World.news_of_block (cs := #[Value.string kk]) (t := 9) (fr := (0, 0)) (heap_alloc_new (wr0.alloc (.cells #[.string kk, .int .u8 d, .slice la Lk lc] 40)) (.cells #[.string kk] 9)); simpa using hnb) (by simp [Value.oneCell']) (by omega) (by unfold maxLen; omega) (by omega) (by simp; have := HO2.out.below.size; simp at this; omega) (wr0.heap.size + 2) (by simp) ?_; intro gs cs w3 ho3 hg3 hat3 hlt3; have hidx3 := row_kept (HO2.out.idx.alloc _) (HO2.out.seen.alloc _) (by decide) hg3; have hb43 := far40 hb40 (HO2.out.seen.alloc _) (by decide) hg3; have hw3 : w.heap.size ≤ w3.heap.size := Nat.le_trans HOv.out.below.size (by have := hg3.size; simp at this; omega))
                            | (at_builtin; refine wpList_append_lies _ rfl (.tmp 107) (.tmp 109) 45 rfl w.heap.size 3 i3 _ 1 8 Ybaf.underlying45 hi3 hx0 hx1 hx2 rfl (by omega) _ ix.length _ rfl (hidx3.alloc _) ⟨w3.heap.size, 0, none⟩ 1 1 [.int .i64 q] rfl rfl (World.news_of_block (cs := #[Value.int .i64 q]) (t := 3) (fr := (0, 0)) (heap_alloc_new w3 _)) (by simp [Value.oneCell']) (by omega) (by unfold maxLen; omega) (by omega) (by simp; omega) (w3.heap.size + 1) (by simp) ?_; intro gi ci w4 ho4 hg4 hat4 hlt4; have HMid : Hid (Mid w E w.heap.size w0.heap.size (w2.heap.size + 2) D ((DataW.map []).put (key OTH) (.held (.iface 9 (.string ⟨#[120]⟩)))) DM (.slice (some ⟨gs, 0, none⟩) (ix.length + 1) cs) (.slice (some ⟨gi, 0, none⟩) (ix.length + 1) ci) ix q w4) := HO2.out.mid hqn (by rw [HKe.out]; exact ho3) hg3 ho4 hg4; have hb44 := far40 hb43 (hidx3.alloc _) (by decide) hg4; obtain ⟨s0, s1, s2⟩ := three40 hb44; clear ho3 hg3 hat3 ho4 hg4 hat4 hidx3 hb43)
                            | (at_make; refine wpList_make_own _ rfl (.const (.int .i64 0)) (.tmp 123) 27 rfl w4.heap.size 20 i20 _ 1 Ybaf.underlying27 hi20 hv0 hv1 .i64 .i64 _ Lk rfl rfl (by omega) (by rw [hv2]; omega) (by unfold maxLen; omega) (Nat.le_refl _) ?_; intro w5 hown5 hgrow5; have hb45 := (hgrow5.block _ (Array.getElem?_eq_some_iff.1 hb44).1 (by simp)).trans hb44; obtain ⟨s3, s4, s5⟩ := three40 hb45; have hbel5 : Below w4.heap.size w4 w5 := ⟨hgrow5.os, hgrow5.tape, hgrow5.output, hgrow5.size, fun i hi => hgrow5.block i hi (by simp)⟩; clear hgrow5 hb45))
                            go_loopw [22, 128] (fun v i wi => ∃ (r g5 c5 : Nat) (us : List Value), r ≤ Lk ∧ i = .int .i64 r ∧ v = .slice (some ⟨g5, 0, none⟩) r c5 ∧ us.length = r ∧ (∀ p, p < r → ElemIs (us.getD p undef) (E.elemOf q p)) ∧ wi.ownsRow w4.heap.size 20 1 v r us ∧ Below w4.heap.size w4 wi) (fun _ i _ => Lk - (intOf i).toNat)
                            case atStart => exact ⟨0, w4.heap.size, Lk, [], Nat.zero_le _, rfl, rfl, rfl, fun p h => by omega, hown5, hbel5⟩
                            case round =>
                              as_aux_lemma =>
                                clear hown5 hbel5 s3 s4 s5
                                obtain ⟨r, g5, c5, us, hr, rfl, rfl, hul, hue, hrow, hbw⟩ := hrel
                                have hws := hbw.size
                                have HUE : Hid (∀ p, p < r → ElemIs (us.getD p undef) (E.elemOf q p)) := hue
                                have HUL : Hid (us.length = r) := hul
                                have HBW : Hid (Below w4.heap.size w4 wr) := hbw
                                clear hue hul
                                by_cases hrl : r < Lk
                                · have hEw : E.In wr := hE.out.below (HMid.out.below.trans (hbw.mono HMid.out.below.size))
                                  obtain ⟨b5, o5, ha5, hb5, hel5⟩ := hEw.elem q hqn (by rw [HLe.out]; omega)
                                  obtain rfl : la = some ⟨b5, o5, none⟩ := HLa.out.symm.trans ha5
                                  obtain ⟨x0, x1⟩ := hel5 r (by rw [HLe.out]; exact hrl)
                                  obtain ⟨hsk0, hsk1⟩ := hEw.sk q hqn r (by rw [HLe.out]; exact hrl)
                                  have hssz := hEw.ssz q hqn r (by rw [HLe.out]; exact hrl)
                                  obtain ⟨sS, hsS⟩ : ∃ x, E.S q r = x := ⟨_, rfl⟩
                                  obtain ⟨dS, hdS⟩ : ∃ x, E.sk q r = x := ⟨_, rfl⟩
                                  rw [hsS] at x0 hssz
                                  rw [hdS] at x1 hsk0 hsk1
                                  have HSS : Hid (E.S q r = sS) := hsS
                                  have HDS : Hid (E.sk q r = dS) := hdS
                                  have HSZ : Hid (sS.size ≤ maxLen) := hssz
                                  clear hEw ha5 hel5 hsS hdS hssz hbw
                                  rcases (show dS % 2 = 0 ∨ dS % 2 = 1 by omega) with hc2 | hc2
                                  · have y0 : (dS % 2 == 0) = true := by simp; omega
                                    have HEL : Hid (E.elemOf q r = some sS) := show E.elemOf q r = some sS by unfold Ents.elemOf; rw [HDS.out, if_pos hc2, HSS.out]
                                    clear hc2
                                    go_wp2_with (at_builtin; refine wpList_append_lies _ rfl (.tmp 136) (.tmp 140) 27 rfl w4.heap.size 20 i20 _ 1 16 Ybaf.underlying27 hi20 hv0 hv1 hv2 rfl (by omega) _ r _ rfl ((hrow.alloc _).alloc _) ⟨wr.heap.size + 1, 0, none⟩ 1 1 [Value.iface 9 (.string sS)] rfl rfl (by have hnb := World.news_of_block (cs := #[Value.iface 9 (.string sS)]) (t := 20) (fr := (0, 0)) (heap_alloc_new (wr.alloc (.cells #[.string sS, .int .u8 dS] 48)) (.cells #[Value.iface 9 (.string sS)] 20)); simpa using hnb) (by simp [Value.oneCell']) (by omega) (by unfold maxLen; omega) (by omega) (by simp; omega) (wr.heap.size + 2) (by simp) ?_; intro g6 c6 w6 ho6 hg6 hat6 hlt6)
                                    go_roundw
                                    case rel => exact ⟨r + 1, g6, c6, us ++ [.iface 9 (.string sS)], by omega, by go_num, rfl, by simp [HUL.out], elems_snoc HUL.out HUE.out (by rw [HEL.out]; exact ⟨rfl, HSZ.out⟩), ho6, below_app HBW.out hrow hg6⟩
                                    case measure => simp [intOf]; omega
                                  · have y0 : (dS % 2 == 0) = false := by simp; omega
                                    have HEL : Hid (E.elemOf q r = none) := show E.elemOf q r = none by unfold Ents.elemOf; rw [HDS.out, if_neg (by omega)]
                                    clear hc2
                                    go_wp2_with (at_builtin; refine wpList_append_lies _ rfl (.tmp 142) (.tmp 147) 27 rfl w4.heap.size 20 i20 _ 1 16 Ybaf.underlying27 hi20 hv0 hv1 hv2 rfl (by omega) _ r _ rfl ((hrow.alloc _).alloc _) ⟨wr.heap.size + 1, 0, none⟩ 1 1 [Value.iface 4 (.bool (dS == 1))] rfl rfl (by have hnb := World.news_of_block (cs := #[Value.iface 4 (.bool (dS == 1))]) (t := 20) (fr := (0, 0)) (heap_alloc_new (wr.alloc (.cells #[.string sS, .int .u8 dS] 48)) (.cells #[Value.iface 4 (.bool (dS == 1))] 20)); simpa using hnb) (by simp [Value.oneCell']) (by omega) (by unfold maxLen; omega) (by omega) (by simp; omega) (wr.heap.size + 2) (by simp) ?_; intro g6 c6 w6 ho6 hg6 hat6 hlt6)
                                    go_roundw
                                    case rel => exact ⟨r + 1, g6, c6, us ++ [.iface 4 (.bool (dS == 1))], by omega, by go_num, rfl, by simp [HUL.out], elems_snoc HUL.out HUE.out (by rw [HEL.out]; exact ⟨_, rfl⟩), ho6, below_app HBW.out hrow hg6⟩
                                    case measure => simp [intOf]; omega
                                · obtain rfl : r = Lk := by omega
                                  have hb46 := (hbw.block _ (Array.getElem?_eq_some_iff.1 hb44).1).trans hb44
                                  obtain ⟨t0, t1, t2⟩ := three40 hb46
                                  have HM6 := HMid.out.keep hbw
                                  have hmo6 := HM6.own
                                  have HMi6 : Hid (Mid w E w.heap.size w0.heap.size (w2.heap.size + 2) D ((DataW.map []).put (key OTH) (.held (.iface 9 (.string ⟨#[120]⟩)))) DM (.slice (some ⟨gs, 0, none⟩) (ix.length + 1) cs) (.slice (some ⟨gi, 0, none⟩) (ix.length + 1) ci) ix q wr) := HM6
                                  clear HM6 hbw hb46
                                  go_wp2_with (at_mapUpdate; refine wpList_mapUpdate_own _ rfl _ _ _ 26 rfl 9 20 law9 Ybaf.underlying26 anyElem (w2.heap.size + 2) ix.length DM rfl hmo6 (by unfold maxLen; omega) _ _ _ rfl rfl (key_of kk hkm) _ [] rfl ?_; intro w7 hown7 hgrow7)
                                  go_roundw
                                  case rel => exact ⟨q + 1, gs, cs, gi, ci, _, ix ++ [q], by omega, by go_num, by simp; omega, by simp, by simp, HMi6.out.put HNEW.out (by rw [HJ.out]; exact lies_of_row hrow HUL.out HUE.out HLe.out) (by rw [HKe.out]; exact hown7) hgrow7⟩
                                  case measure => simp [intOf]; omega
                        · as_aux_lemma =>
                            have n0 : (d % 3 == 0) = false := by simp; omega
                            have n1 : (d % 3 == 1) = true := by simp; omega
                            have HJ : Hid (E.jv q = .str kk) := show E.jv q = .str kk by unfold Ents.jv; rw [HDe.out, if_neg (by omega), if_pos hc, HKe.out]
                            clear hc
                            go_wp2_with (first
                            | (go_at_call 7; refine (bhas_no (some ⟨g, 0, none⟩) c ix.length (ix.map E.K) kk _ (by simp) (by omega) HO2.out.strs hin).mono ?_; rintro e w' ⟨rfl, rfl⟩)
                            | (at_builtin; refine wpList_append_lies _ rfl (.tmp 102) (.tmp 105) 36 rfl w.heap.size 9 i9 _ 1 16 Ybaf.underlying36 hi9 hy0 hy1 hy2 rfl (by omega) _ ix.length _ rfl (HO2.out.seen.alloc _) ⟨wr0.heap.size + 1, 0, none⟩ 1 1 [.string kk] rfl rfl (by have hnb := World.news_of_block (cs := #[Value.string kk]) (t := 9) (fr := (0, 0)) (heap_alloc_new (wr0.alloc (.cells #[.string kk, .int .u8 d, .slice la Lk lc] 40)) (.cells #[.string kk] 9)); simpa using hnb) (by simp [Value.oneCell']) (by omega) (by unfold maxLen; omega) (by omega) (by simp; have := HO2.out.below.size; simp at this; omega) (wr0.heap.size + 2) (by simp) ?_; intro gs cs w3 ho3 hg3 hat3 hlt3; have hidx3 := row_kept (HO2.out.idx.alloc _) (HO2.out.seen.alloc _) (by decide) hg3; have hb43 := far40 hb40 (HO2.out.seen.alloc _) (by decide) hg3; have hw3 : w.heap.size ≤ w3.heap.size := Nat.le_trans HOv.out.below.size (by have := hg3.size; simp at this; omega))
                            | (at_builtin; refine wpList_append_lies _ rfl (.tmp 107) (.tmp 109) 45 rfl w.heap.size 3 i3 _ 1 8 Ybaf.underlying45 hi3 hx0 hx1 hx2 rfl (by omega) _ ix.length _ rfl (hidx3.alloc _) ⟨w3.heap.size, 0, none⟩ 1 1 [.int .i64 q] rfl rfl (World.news_of_block (cs := #[Value.int .i64 q]) (t := 3) (fr := (0, 0)) (heap_alloc_new w3 _)) (by simp [Value.oneCell']) (by omega) (by unfold maxLen; omega) (by omega) (by simp; omega) (w3.heap.size + 1) (by simp) ?_; intro gi ci w4 ho4 hg4 hat4 hlt4; have HMid : Hid (Mid w E w.heap.size w0.heap.size (w2.heap.size + 2) D ((DataW.map []).put (key OTH) (.held (.iface 9 (.string ⟨#[120]⟩)))) DM (.slice (some ⟨gs, 0, none⟩) (ix.length + 1) cs) (.slice (some ⟨gi, 0, none⟩) (ix.length + 1) ci) ix q w4) := HO2.out.mid hqn (by rw [HKe.out]; exact ho3) hg3 ho4 hg4; have hb44 := far40 hb43 (hidx3.alloc _) (by decide) hg4; obtain ⟨s0, s1, s2⟩ := three40 hb44; clear ho3 hg3 hat3 ho4 hg4 hat4 hidx3 hb43)
                            | (at_mapUpdate; have hmo4 := HMid.out.own; refine wpList_mapUpdate_own _ rfl _ _ _ 26 rfl 9 20 law9 Ybaf.underlying26 anyElem (w2.heap.size + 2) ix.length DM rfl hmo4 (by unfold maxLen; omega) _ _ _ rfl rfl (key_of kk hkm) _ [] rfl ?_; intro w5 hown5 hgrow5))
                            go_roundw
                            case rel => exact ⟨q + 1, gs, cs, gi, ci, _, ix ++ [q], by omega, by go_num, by simp; omega, by simp, by simp, HMid.out.put HNEW.out (by rw [HJ.out]; rfl) (by rw [HKe.out]; exact hown5) hgrow5⟩
                            case measure => simp [intOf]; omega
                        · as_aux_lemma =>
                            have n0 : (d % 3 == 0) = false := by simp; omega
                            have n1 : (d % 3 == 1) = false := by simp; omega
                            have HJ : Hid (E.jv q = .arr []) := show E.jv q = .arr [] by unfold Ents.jv; rw [HDe.out, if_neg (by omega), if_neg (by omega)]
                            clear hc
                            go_wp2_with (first
                            | (go_at_call 7; refine (bhas_no (some ⟨g, 0, none⟩) c ix.length (ix.map E.K) kk _ (by simp) (by omega) HO2.out.strs hin).mono ?_; rintro e w' ⟨rfl, rfl⟩)
                            | (at_builtin; refine wpList_append_lies _ rfl (.tmp 102) (.tmp 105) 36 rfl w.heap.size 9 i9 _ 1 16 Ybaf.underlying36 hi9 hy0 hy1 hy2 rfl (by omega) _ ix.length _ rfl (HO2.out.seen.alloc _) ⟨wr0.heap.size + 1, 0, none⟩ 1 1 [.string kk] rfl rfl (by have hnb := World.news_of_block (cs := #[Value.string kk]) (t := 9) (fr := (0, 0)) (heap_alloc_new (wr0.alloc (.cells #[.string kk, .int .u8 d, .slice la Lk lc] 40)) (.cells #[.string kk] 9)); simpa using hnb) (by simp [Value.oneCell']) (by omega) (by unfold maxLen; omega) (by omega) (by simp; have := HO2.out.below.size; simp at this; omega) (wr0.heap.size + 2) (by simp) ?_; intro gs cs w3 ho3 hg3 hat3 hlt3; have hidx3 := row_kept (HO2.out.idx.alloc _) (HO2.out.seen.alloc _) (by decide) hg3; have hb43 := far40 hb40 (HO2.out.seen.alloc _) (by decide) hg3; have hw3 : w.heap.size ≤ w3.heap.size := Nat.le_trans HOv.out.below.size (by have := hg3.size; simp at this; omega))
                            | (at_builtin; refine wpList_append_lies _ rfl (.tmp 107) (.tmp 109) 45 rfl w.heap.size 3 i3 _ 1 8 Ybaf.underlying45 hi3 hx0 hx1 hx2 rfl (by omega) _ ix.length _ rfl (hidx3.alloc _) ⟨w3.heap.size, 0, none⟩ 1 1 [.int .i64 q] rfl rfl (World.news_of_block (cs := #[Value.int .i64 q]) (t := 3) (fr := (0, 0)) (heap_alloc_new w3 _)) (by simp [Value.oneCell']) (by omega) (by unfold maxLen; omega) (by omega) (by simp; omega) (w3.heap.size + 1) (by simp) ?_; intro gi ci w4 ho4 hg4 hat4 hlt4; have HMid : Hid (Mid w E w.heap.size w0.heap.size (w2.heap.size + 2) D ((DataW.map []).put (key OTH) (.held (.iface 9 (.string ⟨#[120]⟩)))) DM (.slice (some ⟨gs, 0, none⟩) (ix.length + 1) cs) (.slice (some ⟨gi, 0, none⟩) (ix.length + 1) ci) ix q w4) := HO2.out.mid hqn (by rw [HKe.out]; exact ho3) hg3 ho4 hg4; have hb44 := far40 hb43 (hidx3.alloc _) (by decide) hg4; obtain ⟨s0, s1, s2⟩ := three40 hb44; clear ho3 hg3 hat3 ho4 hg4 hat4 hidx3 hb43)
                            | (at_mapUpdate; have hmo4 := (HMid.out.keep ((Below.refl _ _).alloc (Nat.le_refl _) (.cells #[] 20))).own; refine wpList_mapUpdate_own _ rfl _ _ _ 26 rfl 9 20 law9 Ybaf.underlying26 anyElem (w2.heap.size + 2) ix.length DM rfl hmo4 (by unfold maxLen; omega) _ _ _ rfl rfl (key_of kk hkm) _ [] rfl ?_; intro w5 hown5 hgrow5))
                            go_roundw
                            case rel => exact ⟨q + 1, gs, cs, gi, ci, _, ix ++ [q], by omega, by go_num, by simp; omega, by simp, by simp, (HMid.out.keep ((Below.refl _ _).alloc (Nat.le_refl _) (.cells #[] 20))).put (x := .iface 27 (.slice (some ⟨w4.heap.size, 0, none⟩) 0 0)) HNEW.out (by rw [HJ.out]; exact ⟨_, _, rfl, fun h => by simp at h⟩) (by rw [HKe.out]; exact hown5) hgrow5⟩
                            case measure => simp [intOf]; omega
                    · obtain rfl : q = k := by omega
                      have hroot := HOv.out.root
                      go_wp2_with (at_mapUpdate; refine wpList_mapUpdate_own _ rfl _ _ _ 26 rfl 9 20 law9 Ybaf.underlying26 anyElem w0.heap.size 1 _ rfl hroot (by unfold maxLen; omega) _ _ _ rfl rfl (key_of ASG asg_size) _ [] rfl ?_; intro w3 hown3 hgrow3)
                      go_meet
                      case rel => exact Stage.two HOv.out (by omega) HR.out.hi hown3 hgrow3
          case rest =>
            have HST : Hid (Stage w E N mo3 D w0.heap.size u17 u18 wc) := hcut
            clear hcut hmo3
            obtain ⟨pp, hpp⟩ : ∃ x : Nat, prior % 4 = (x : Int) ∧ x ≤ 3 := ⟨(prior % 4).toNat, by omega, by omega⟩
            obtain ⟨hpe, hp3⟩ := hpp
            go_upto_region 48 with fail
            try rw [hpe]
            clear hpe
            go_wp2_with fail
            go_loopw [27] (fun i wr => ∃ j : Nat, j ≤ pp ∧ i = .int .i64 j ∧ Flt wc.heap.size wc.heap.size wr j (pri j) ∧ Below wc.heap.size wc wr) (fun i _ => pp - (intOf i).toNat)
            case atStart => exact ⟨0, Nat.zero_le _, rfl, ⟨Nat.le_refl _, _, Boxed.new wc 30 _, World.ownsRow_nil _ _ _ _⟩, (Below.refl _ _).alloc (Nat.le_refl _) _⟩
            case round =>
              obtain ⟨j, hj, rfl, hfl, hbl⟩ := hrel
              have hlt0 := hfl.lt
              have hws := hbl.size
              have HFl : Hid (Flt wc.heap.size wc.heap.size wr j (pri j)) := hfl
              have HBl : Hid (Below wc.heap.size wc wr) := hbl
              obtain ⟨v, hv, ho⟩ := hfl.row
              have hcv := hv.cell
              have hfv := hv.frozen
              have HV : Hid (Boxed wr wc.heap.size 30 v) := hv
              have HNE : Hid (some wc.heap.size ≠ v.ownBlock) := hv.not_row (by decide) ho
              have HRo : Hid (wr.ownsRow wc.heap.size 33 2 v j (pri j)) := ho
              clear hfl hbl hv ho
              by_cases hlt : j < pp
              · go_wp2_with (at_builtin; refine wpList_append_lies _ rfl (.tmp 181) (.tmp 183) 23 rfl wc.heap.size 33 i33 _ 2 32 Ybaf.underlying23 hi33 hu0 hu1 hu2 rfl (by omega) v j _ rfl (HRo.out.alloc _) ⟨wr.heap.size, 0, none⟩ 1 1 [.string PR, .string PR] rfl rfl (World.news_of_block (cs := #[.string PR, .string PR]) (t := 33) (fr := (0, 0)) (heap_alloc_new wr _)) (by simp [Value.oneCell']) (by omega) (by unfold maxLen; omega) (by omega) (by simp; omega) (wr.heap.size + 1) (by simp) ?_; intro g1 cp1 w1 ho1 hg1 hat1 hlt1; obtain ⟨c0, z0⟩ := Go.Proofs.YbulkbmyaFmt.lawS3185AReads.far hg1 wc.heap.size 0 hlt0 HNE.out; rw [hcv] at c0; rw [hfv] at z0)
                go_roundw
                case rel =>
                  have hst := flt_step (Nat.le_refl wc.heap.size) HV.out HRo.out ho1 (Go.Proofs.YbulkbmyaFmt.lawS3185AReads.grown_alloc hg1)
                  exact ⟨j + 1, by omega, by go_num, hst.1, HBl.out.trans (hst.2.below (Nat.le_refl _) hws)⟩
                case measure => simp [intOf]; omega
              · obtain rfl : j = pp := by omega
                clear hcv hfv HV HNE HRo hlt hj
                have HRo2 : Hid (wr.ownsMap Ybaf.prog 9 anyElem w.heap.size 300 D ∧ ∀ s z, Maps.has D (key s) = true → D.atKey (key s) z = .held Z44) := ⟨owns_map_block HST.out.roles (HBl.out.block _ HST.out.roles.lt), HR.out.at_⟩
                have HFw : Hid (F.answers wr.tape) := show F.answers wr.tape by rw [HBl.out.tape, HST.out.below.tape]; exact hF.out
                go_upto_region 52 with fail
                go_cut [28] from 187 to 191 (fun t wx => Got w E N mo3 D path wc wr j u17 u18 t wx)
                case first =>
                  as_aux_lemma =>
                    rcases HST.out.rest with ⟨hm, DR, hR, hh⟩ | ⟨hm, DR, tt, hR, hh, hat⟩ | hm2
                    · have HRw : Hid (wr.ownsMap Ybaf.prog 9 anyElem w0.heap.size 2 DR) := owns_map_block hR (HBl.out.block _ hR.lt)
                      have HHh : Hid (Maps.has DR (key ASG) = false) := hh
                      have HMo : Hid (mo3 = 0) := hm
                      clear hm hh hR
                      go_wp2_with (go_at_call 8; refine (ra_miss wc.heap.size w0.heap.size w.heap.size 2 DR path wr (by omega) HRw HHh).mono ?_; rintro e wx ⟨rfl, hbx⟩)
                      go_meet
                      case rel => exact ⟨HBl.out.trans (hbx.mono HBl.out.size), KF.of_below hbx, .inl ⟨HMo.out, rfl, HFl.out.below hbx⟩⟩
                    · have HRw : Hid (wr.ownsMap Ybaf.prog 9 anyElem w0.heap.size 2 DR) := owns_map_block hR (HBl.out.block _ hR.lt)
                      have HHh : Hid (Maps.has DR (key ASG) = true) := hh
                      have HAt : Hid (∀ z, DR.atKey (key ASG) z = .held (.iface 9 (.string tt))) := hat
                      have HMo : Hid (mo3 = 1) := hm
                      clear hm hh hR hat
                      go_wp2_with (go_at_call 8; refine (ra_str F wc.heap.size wc.heap.size j w0.heap.size w.heap.size 2 DR tt (pri j) path wr HFw (by omega) HFl (by omega) HRw HHh HAt).mono ?_; rintro e wx ⟨rfl, hf2, hk2⟩; have HF2 : Hid (∃ q, Flt wc.heap.size wc.heap.size wx (j + 1) (pri j ++ [.string (mpath path ASG), .string q])) := hf2; have HK2 : Hid (KF wc.heap.size wc.heap.size wr wx) := hk2; clear hf2 hk2)
                      go_meet
                      case rel => rw [HMo.out]; exact Got.one HBl.out HF2.out HK2.out
                    · obtain ⟨hm, DR, mo, DM, ix, hR, hh, hat, hM, hcol, hvat, hilt, hil, hvs, hvi⟩ := hm2
                      have HRw : Hid (wr.ownsMap Ybaf.prog 9 anyElem w0.heap.size 2 DR) := owns_map_block hR (HBl.out.block _ hR.lt)
                      have HMw : Hid (wr.ownsMap Ybaf.prog 9 anyElem mo 300 DM) := owns_map_block hM (HBl.out.block _ hM.lt)
                      have HHh : Hid (Maps.has DR (key ASG) = true) := hh
                      have HAt : Hid (∀ z, DR.atKey (key ASG) z = .held (.iface 26 (.map (some mo)))) := hat
                      have HP : Hid ((ix.map fun i => (E.K i).data.toList).Perm (strKeys DM)) := ix_perm hM hcol
                      have HJ : Hid (∀ s : ByteArray, s.data.toList ∈ strKeys DM → short (jof E ix s) ∧ s.size ≤ 1000000000000000 ∧ Maps.has DM (key s) = true ∧ ∃ x, (∀ z, DM.atKey (key s) z = .held x) ∧ Lies wr x (jof E ix s)) := obj_vals hM hcol hvat hilt (fun j hj => HA.out j (by rw [HEn.out]; exact hj)) hE.out HBl.out
                      have HCol : Hid (Collected DM (fun _ => false) (ix.map fun i => (E.K i).data.toList)) := hcol
                      have HIl : Hid (∀ i ∈ ix, i < E.n) := hilt
                      have HIn : Hid (ix.length ≤ 300) := hil
                      have HVs : Hid (wc.ownsRow w.heap.size 9 1 u17 ix.length (ix.map fun i => Value.string (E.K i))) := hvs
                      have HVi : Hid (wc.ownsRow w.heap.size 3 1 u18 ix.length (ix.map fun i : Nat => Value.int .i64 (i : Int))) := hvi
                      have HMo : Hid (mo3 = 2) := hm
                      clear hm hR hh hat hM hcol hvat hilt hil hvs hvi
                      by_cases h0 : ix = []
                      · have hz : Maps.size DM = 0 := by rw [← size_strKeys HMw.out.isMap, ← HP.out.length_eq, h0]; rfl
                        have H0 : Hid (ix = []) := h0
                        clear h0
                        go_wp2_with (go_at_call 8; refine (ra_none wc.heap.size w0.heap.size mo 300 w.heap.size 2 DR DM path wr (by omega) HRw HHh HAt HMw hz).mono ?_; rintro e wx ⟨rfl, hbx⟩)
                        go_meet
                        case rel => rw [HMo.out]; exact Got.bare HBl.out HFl.out hbx HCol.out HP.out HIl.out HIn.out HVs.out HVi.out H0.out
                      · have hz : 0 < Maps.size DM := by
                          rw [← size_strKeys HMw.out.isMap, ← HP.out.length_eq, List.length_map]
                          exact List.length_pos_iff.2 h0
                        have H0 : Hid (ix ≠ []) := h0
                        have HNd : Hid ((strKeys DM).Nodup) := HP.out.nodup_iff.1 HCol.out.1
                        clear h0
                        go_wp2_with (go_at_call 8; refine (ra_obj F wc.heap.size wc.heap.size j w0.heap.size mo 300 w.heap.size 2 D DM DR (jof E ix) (pri j) path wr HFw (by omega) HFl HRo2 (by omega) HMw (by omega) hz HNd HJ HRw HHh HAt).mono ?_; rintro e wx ⟨m', D', rfl, hO, hf2, hk2⟩; have HO : Hid (MapOut wx (jof E ix) DM m' D') := hO; have HF2 : Hid (∃ ys, Flt wc.heap.size wc.heap.size wx (j + tot D (jof E ix) (strKeys DM)) (pri j ++ ys)) := hf2; have HK2 : Hid (KF wc.heap.size wc.heap.size wr wx) := hk2; clear hO hf2 hk2)
                        go_meet
                        case rel => rw [HMo.out]; exact Got.laden HBl.out HFl.out HK2.out HCol.out HP.out HIl.out HIn.out HVs.out HVi.out H0.out HO.out HF2.out
                case rest =>
                  rename World => wx
                  have HG : Hid (Got w E N mo3 D path wc wr j u17 u18 u28 wx) := hcut
                  clear hcut
                  go_upto_region 54 with fail
                  go_cut [198] from 192 to 197 (fun t wy => wx = wy ∧ ((t = .bool true ∧ u28 = .map none) ∨ (t = .bool false ∧ mo3 = 2 ∧ u28 ≠ .map none)))
                  case first =>
                    as_aux_lemma =>
                      rcases HG.out.res with ⟨hm, ht, _⟩ | ⟨hm, ht, _⟩ | ⟨hm, DM, ix, hc, hpm, hilt, hil, hvs, hvi, hres⟩
                      · have HT : Hid (u28 = .map none) := ht
                        clear ht
                        subst hm
                        go_wp2_with fail
                        go_meet
                        case rel => exact ⟨rfl, .inl ⟨rfl, HT.out⟩⟩
                      · have HT : Hid (u28 = .map none) := ht
                        clear ht
                        subst hm
                        go_wp2_with fail
                        go_meet
                        case rel => exact ⟨rfl, .inl ⟨rfl, HT.out⟩⟩
                      · have HT : Hid ((ix.length = 0 ∧ u28 = .map none) ∨ (0 < ix.length ∧ u28 ≠ .map none)) := by
                          rcases hres with ⟨rfl, ht, _⟩ | ⟨h0, m', D', ht, _⟩
                          · exact .inl ⟨rfl, ht⟩
                          · exact .inr ⟨List.length_pos_iff.2 h0, by rw [ht]; simp⟩
                        obtain ⟨L, hL⟩ : ∃ x, ix.length = x := ⟨_, rfl⟩
                        have HT2 : Hid ((L = 0 ∧ u28 = .map none) ∨ (0 < L ∧ u28 ≠ .map none)) := by rw [← hL]; exact HT
                        rw [hL] at hvs hil
                        obtain ⟨sa, sc, rfl⟩ := row_slice hvs
                        clear hc hpm hilt hvs hvi hres HT hL
                        subst hm
                        by_cases hz : L = 0
                        · have hz2 : ((L : Int) == 0) = true := by simp; omega
                          have HZ : Hid (L = 0) := hz
                          clear hz
                          go_wp2_with fail
                          go_meet
                          case rel => exact ⟨rfl, .inl ⟨by simp, by have := HZ.out; rcases HT2.out with h | h; exact h.2; omega⟩⟩
                        · have hz2 : ((L : Int) == 0) = false := by simp; omega
                          have HZ : Hid (¬ L = 0) := hz
                          clear hz
                          go_wp2_with fail
                          go_meet
                          case rel => exact ⟨rfl, .inr ⟨by simp, by simp, by have := HZ.out; rcases HT2.out with h | h; omega; exact h.2⟩⟩
                  case rest =>
                    obtain ⟨hww, h198⟩ := hcut
                    subst hww
                    have H198 : Hid ((u198 = .bool true ∧ u28 = .map none) ∨ (u198 = .bool false ∧ mo3 = 2 ∧ u28 ≠ .map none)) := h198
                    clear h198
                    go_upto_if 198 with fail
                    go_cut [29, 30, 31, 32, 33, 34, 35, 37] from 199 to 289 (fun t _ _ _ _ _ _ _ wy => Fin mo3 path wc j t wy)
                    case first =>
                      as_aux_lemma =>
                        rcases H198.out with ⟨rfl, ht⟩ | ⟨rfl, hm2, hne⟩
                        · have hq := neq49n
                          clear H198
                          subst ht
                          have HFi := HG.out.fin
                          by_cases hm1' : mo3 = 1
                          · have HF1 : Hid (Fin mo3 path wc j (.int .i64 1) wx) := HFi.1 hm1'
                            clear HFi
                            have hm1'' : (mo3 == 1) = true := by simp; exact hm1'
                            clear hm1'
                            go_wp2_with fail
                            go_meet
                            case rel => exact HF1.out
                          · have HF1 : Hid (Fin mo3 path wc j (.int .i64 0) wx) := HFi.2 hm1'
                            clear HFi
                            have hm1'' : (mo3 == 1) = false := by simp; exact hm1'
                            clear hm1'
                            go_wp2_with fail
                            go_meet
                            case rel => exact HF1.out
                        · clear H198
                          obtain ⟨ix, L, m', D', rfl, hFull⟩ := HG.out.full hm2 hne
                          have HMo : Hid (mo3 = 2) := hm2
                          clear hm2 hne
                          obtain ⟨gs, cs, rfl⟩ := row_slice_pos hFull.seen hFull.pos
                          obtain ⟨gi, ci, rfl⟩ := row_slice_pos hFull.idx hFull.pos
                          have hown := hFull.own
                          have hszD := hFull.size
                          have hL3 := hFull.big
                          have HFu : Hid (Full w E D wc j (.slice (some ⟨gs, 0, none⟩) L cs) (.slice (some ⟨gi, 0, none⟩) L ci) ix L m' D' wx) := hFull
                          clear hFull
                          go_wp2_with (at_len; refine wpList_len_own _ rfl _ 49 rfl 9 36 Ybaf.underlying49 _ m' 300 D' rfl hown ?_; rw [hszD])
                          clear hown hszD
                          go_loopw [29, 210] (fun nf i wr => ∃ t : Nat, t ≤ L ∧ i = .int .i64 t ∧ nf = .int .i64 (nfOf D E ix t : Nat) ∧ Below wx.heap.size wx wr) (fun _ i _ => L - (intOf i).toNat)
                          case atStart => exact ⟨0, Nat.zero_le _, rfl, rfl, Below.refl _ _⟩
                          case round =>
                            as_aux_lemma =>
                              rename World => wr6
                              obtain ⟨t, ht, rfl, rfl, hbt⟩ := hrel
                              have HBt : Hid (Below wx.heap.size wx wr6) := hbt
                              have hnl : nfOf D E ix t ≤ t * 301 := nfOf_le (fun i hi => HA.out i (by rw [HEn.out]; exact HFu.out.lt i hi)) t (by rw [HFu.out.len]; exact ht)
                              clear hbt
                              obtain ⟨nt, hnt⟩ : ∃ x, nfOf D E ix t = x := ⟨_, rfl⟩
                              rw [hnt] at hnl
                              simp only [hnt]
                              have HNt : Hid (nfOf D E ix t = nt) := hnt
                              clear hnt
                              by_cases hlt : t < L
                              · have hltx : t < ix.length := by rw [HFu.out.len]; exact hlt
                                have HLx : Hid (t < ix.length) := hltx
                                obtain ⟨iq, hiq⟩ : ∃ x, ix.getD t 0 = x := ⟨_, rfl⟩
                                have hmem : iq ∈ ix := hiq ▸ getD_mem hltx
                                have hqn := HFu.out.lt iq hmem
                                have hik : iq < k := by rw [HEn.out]; exact hqn
                                have hbw6 : Below w.heap.size w wr6 := HST.out.below.trans ((HG.out.below.trans (HBt.out.mono HG.out.below.size)).mono HST.out.below.size)
                                have HB6 : Hid (Below w.heap.size w wr6) := hbw6
                                have hEr : E.In wr6 := hE.out.below hbw6
                                obtain ⟨b, o, ha, hb, e0, e1, e2⟩ := hEr.row iq hqn
                                obtain rfl : Ea = some ⟨b, o, none⟩ := HEa.out.trans ha
                                obtain ⟨hd0, hd1⟩ := hEr.kd iq hqn
                                have hkz := hEr.ksz iq hqn
                                have hLk := HA.out iq hik
                                have d0 := idx_cell (by rw [HFu.out.len]; exact row_below HFu.out.idx HBt.out) hltx
                                have d2 := fun (z : Obj) => seen_cell (E := E) (w := wr6.alloc z) (b := w.heap.size) (g := gs) (c := cs) (by rw [HFu.out.len]; exact row_below (row_below HFu.out.seen HBt.out) ((Below.refl _ _).alloc (Nat.le_refl _) z)) hltx
                                obtain ⟨u, hat, hout⟩ := HFu.out.at_ iq hmem
                                have hhas := HFu.out.has iq hmem
                                rw [hiq] at d0
                                simp only [hiq] at d2
                                obtain ⟨kk, hkk⟩ : ∃ x, E.K iq = x := ⟨_, rfl⟩
                                obtain ⟨d, hd⟩ : ∃ x, E.kd iq = x := ⟨_, rfl⟩
                                obtain ⟨la, hla⟩ : ∃ x, E.ea iq = x := ⟨_, rfl⟩
                                obtain ⟨Lk, hLe⟩ : ∃ x, E.el iq = x := ⟨_, rfl⟩
                                obtain ⟨lc, hlc⟩ : ∃ x, E.ec iq = x := ⟨_, rfl⟩
                                rw [hkk] at e0 hkz hat hhas
                                simp only [hkk] at d2
                                rw [hd] at e1 hd0 hd1
                                rw [hla, hLe, hlc] at e2
                                rw [hLe] at hLk
                                have HIq : Hid (ix.getD t 0 = iq) := hiq
                                have HKe : Hid (E.K iq = kk) := hkk
                                have HDe : Hid (E.kd iq = d) := hd
                                have HLa : Hid (E.ea iq = la) := hla
                                have HLe : Hid (E.el iq = Lk) := hLe
                                have HOu : Hid (Out wr6 u (E.jv iq)) := hout.below HBt.out
                                have hkm : kk.size ≤ maxLen := by unfold maxLen; omega
                                have hbq : Below wr6.heap.size wr6 (wr6.alloc (.cells #[.string kk, .int .u8 d, .slice la Lk lc] 40)) := (Below.refl _ _).alloc (Nat.le_refl _) _
                                have d1 := d2 (.cells #[.string kk, .int .u8 d, .slice la Lk lc] 40)
                                have hlook := look49 (w := wr6.alloc (.cells #[.string kk, .int .u8 d, .slice la Lk lc] 40)) (owns_map_block HFu.out.own ((hbq.block _ (Nat.lt_of_lt_of_le HFu.out.own.lt HBt.out.size)).trans (HBt.out.block _ HFu.out.own.lt))) hkm hhas hat
                                have HSN : Hid (StrsAt (wr6.alloc (.cells #[.string kk, .int .u8 d, .slice la Lk lc] 40)) na N) := (hN.out.below hbw6).below hbq
                                obtain ⟨bb, hbb⟩ : ∃ bb : Bool, bb = true ↔ kk ∈ N := bool_of _
                                have HBB : Hid (bb = true ↔ kk ∈ N) := hbb
                                clear hiq hmem hbw6 hEr ha hkk hd hla hLe hlc hbb hat hhas hout hltx hbq d2
                                go_upto_if 234 with (go_at_call 7; refine (bhas_b na nc i N kk _ bb hNl.out (by omega) HSN.out HBB.out).mono ?_; rintro e w' ⟨rfl, rfl⟩)
                                go_cut [29] from 211 to 236 (fun v wz => v = .int .i64 ((nt + rc D kk : Nat) : Int) ∧ Below wr6.heap.size wr6 wz ∧ wz.heap[wr6.heap.size]? = some (.cells #[.string kk, .int .u8 d, .slice la Lk lc] 40 (0, 0)))
                                case first =>
                                  as_aux_lemma =>
                                    have HBq : Hid (Below wr6.heap.size wr6 (wr6.alloc (.cells #[.string kk, .int .u8 d, .slice la Lk lc] 40))) := (Below.refl _ _).alloc (Nat.le_refl _) _
                                    clear hlook
                                    by_cases hb2 : bb = true
                                    · have HRc : Hid (rc D kk = 0) := rc_in HR.out hNl.out (HBB.out.1 hb2)
                                      clear HBB
                                      subst hb2
                                      go_wp2_with fail
                                      go_meet
                                      case rel => exact ⟨by rw [HRc.out]; go_num, HBq.out, World.alloc_heap_new _ _⟩
                                    · have HRc : Hid (rc D kk = 1) := rc_out HR.out hNl.out (fun h => hb2 (HBB.out.2 h))
                                      obtain rfl : bb = false := by simpa using hb2
                                      clear HBB hb2
                                      go_wp2_with fail
                                      go_meet
                                      case rel => exact ⟨by rw [HRc.out]; go_num, HBq.out, World.alloc_heap_new _ _⟩
                                case rest =>
                                  as_aux_lemma =>
                                    rename World => wz
                                    obtain ⟨rfl, hbz, hz40⟩ := hcut
                                    obtain ⟨n0, hn0⟩ : ∃ x, nt + rc D kk = x := ⟨_, rfl⟩
                                    have hn0l : n0 ≤ t * 301 + 1 := by have := rc_le D kk; omega
                                    simp only [hn0]
                                    have HN0 : Hid (nt + rc D kk = n0) := hn0
                                    have HBz : Hid (Below wr6.heap.size wr6 wz) := hbz
                                    have HZ40 : Hid (wz.heap[wr6.heap.size]? = some (.cells #[.string kk, .int .u8 d, .slice la Lk lc] 40 (0, 0))) := hz40
                                    obtain ⟨s0, s1, s2⟩ := three40 hz40
                                    have HOz : Hid (Out wz u (E.jv iq)) := HOu.out.below hbz
                                    have HNx : Hid (nfOf D E ix (t + 1) = n0 + jc D (E.jv iq)) := by
                                      show nfOf D E ix (t + 1) = n0 + jc D (E.jv iq)
                                      rw [nfOf_succ HLx.out, HIq.out, HNt.out, HKe.out, ← HN0.out]
                                      omega
                                    have HBxz : Hid (Below wx.heap.size wx wz) := HBt.out.trans (hbz.mono HBt.out.size)
                                    have HBwz : Hid (Below w.heap.size w wz) := HB6.out.trans (hbz.mono HB6.out.size)
                                    clear hbz hz40 hn0 hlook d0 d1 HSN HBB e0 e1 e2
                                    rcases (show d % 3 = 0 ∨ d % 3 = 1 ∨ d % 3 = 2 by omega) with hc | hc | hc
                                    · have c0 : (d % 3 == 0) = true := by simp; omega
                                      have HJ : Hid (E.jv iq = .arr (E.list iq)) := show E.jv iq = .arr (E.list iq) by unfold Ents.jv; rw [HDe.out, if_pos hc]
                                      clear hc
                                      by_cases hz : Lk = 0
                                      · have hln : E.list iq = [] := by unfold Ents.list; rw [HLe.out, hz]; rfl
                                        obtain rfl : u = .slice none 0 0 := HOz.out.1 (by rw [HJ.out, hln]; rfl)
                                        have hq36 := neq36n
                                        have HJc : Hid (nfOf D E ix (t + 1) = n0) := by
                                          show nfOf D E ix (t + 1) = n0
                                          rw [HNx.out, HJ.out, hln]
                                          rfl
                                        clear hln
                                        have hz' : ((Lk : Int) == 0) = true := by simp; omega
                                        go_wp2_with fail
                                        go_roundw
                                        case rel => exact ⟨t + 1, by omega, by go_num, by rw [HJc.out], HBxz.out⟩
                                        case measure => simp [intOf]; omega
                                      · have hln : E.list iq ≠ [] := fun e => hz (by have := congrArg List.length e; simpa [Ents.list, HLe.out] using this)
                                        obtain ⟨gu, cu, cur, hu, hgu, hcu⟩ := HOz.out.2 (by rw [HJ.out]; exact hln)
                                        rw [HJ.out] at hu hcu
                                        have HUs : Hid (StrsAt wz (some ⟨gu, 0, none⟩) ((E.list iq).filterMap id)) := out_strs hgu hcu
                                        obtain ⟨lu, hlu⟩ : ∃ x, ((E.list iq).filterMap id).length = x := ⟨_, rfl⟩
                                        have HLu : Hid (((E.list iq).filterMap id).length = lu) := hlu
                                        have hu' : u = .slice (some ⟨gu, 0, none⟩) lu cu := hu.trans (by rw [← hlu]; rfl)
                                        clear hu hcu hgu hln hlu
                                        subst hu'
                                        have hq36 := eql36s
                                        have hz' : ((Lk : Int) == 0) = false := by simp; omega
                                        obtain ⟨s3, s4, s5⟩ := three40 (w := wz.alloc (.cells #[] 9)) ((Below.heap_alloc _ _ _ (Array.getElem?_eq_some_iff.1 HZ40.out).1).trans HZ40.out)
                                        go_wp2_with fail
                                        go_loopw [29, 35, 256] (fun nf v i wi => ∃ r ul g5 c5 n5 : Nat, r ≤ Lk ∧ i = .int .i64 r ∧ v = .slice (some ⟨g5, 0, none⟩) ul c5 ∧ nf = .int .i64 n5 ∧ Exp E D iq n0 wz r ul n5 v wi) (fun _ _ i _ => Lk - (intOf i).toNat)
                                        case atStart => exact ⟨0, 0, _, _, n0, Nat.zero_le _, rfl, rfl, rfl, Exp.start E D iq n0 wz⟩
                                        case round =>
                                          as_aux_lemma =>
                                            rename World => wi
                                            clear s0 s1 s2 s3 s4 s5 hq36 hz'
                                            obtain ⟨r, ul, g5, c5, n5, hr, rfl, rfl, rfl, hexp⟩ := hrel
                                            have hul := hexp.ul_le
                                            have hn5 := hexp.n5_le
                                            have hrow := hexp.row
                                            have hws := hexp.below.size
                                            have HEx : Hid (Exp E D iq n0 wz r ul n5 (.slice (some ⟨g5, 0, none⟩) ul c5) wi) := hexp
                                            have HBwi : Hid (Below w.heap.size w wi) := HBwz.out.trans (hexp.below.mono HBwz.out.size)
                                            clear hexp
                                            by_cases hrl : r < Lk
                                            · have hEw : E.In wi := hE.out.below HBwi.out
                                              have hrl' : r < E.el iq := by rw [HLe.out]; exact hrl
                                              obtain ⟨b5, o5, ha5, hb5, hel5⟩ := hEw.elem iq hqn (by omega)
                                              obtain rfl : la = some ⟨b5, o5, none⟩ := HLa.out.symm.trans ha5
                                              obtain ⟨x0, x1⟩ := hel5 r hrl'
                                              obtain ⟨hsk0, hsk1⟩ := hEw.sk iq hqn r hrl'
                                              obtain ⟨sS, hsS⟩ : ∃ x, E.S iq r = x := ⟨_, rfl⟩
                                              obtain ⟨dS, hdS⟩ : ∃ x, E.sk iq r = x := ⟨_, rfl⟩
                                              rw [hsS] at x0
                                              rw [hdS] at x1 hsk0 hsk1
                                              have HSS : Hid (E.S iq r = sS) := hsS
                                              have HDS : Hid (E.sk iq r = dS) := hdS
                                              have HRL : Hid (r < E.el iq) := hrl'
                                              clear hEw ha5 hel5 hsS hdS hrl'
                                              rcases (show dS % 2 = 0 ∨ dS % 2 = 1 by omega) with hc2 | hc2
                                              · have y0 : (dS % 2 == 0) = true := by simp; omega
                                                have HEL : Hid (E.elemOf iq r = some sS) := show E.elemOf iq r = some sS by unfold Ents.elemOf; rw [HDS.out, if_pos hc2, HSS.out]
                                                clear hc2
                                                by_cases hin : sS ∈ N
                                                · have HRc : Hid (rc D sS = 0) := rc_in HR.out hNl.out hin
                                                  have HIN : Hid (sS ∈ N) := hin
                                                  clear hin
                                                  go_wp2_with (first
                                                  | (at_builtin; refine wpList_append_lies _ rfl (.tmp 264) (.tmp 267) 36 rfl wz.heap.size 9 i9 _ 1 16 Ybaf.underlying36 hi9 hy0 hy1 hy2 rfl (by omega) _ ul _ rfl ((hrow.alloc _).alloc _) ⟨wi.heap.size + 1, 0, none⟩ 1 1 [Value.string sS] rfl rfl (by have hnb := World.news_of_block (cs := #[Value.string sS]) (t := 9) (fr := (0, 0)) (heap_alloc_new (wi.alloc (.cells #[.string sS, .int .u8 dS] 48)) (.cells #[Value.string sS] 9)); simpa using hnb) (by simp [Value.oneCell']) (by omega) (by unfold maxLen; omega) (by omega) (by simp; omega) (wi.heap.size + 2) (by simp) ?_; intro g6 c6 w6 ho6 hg6 hat6 hlt6; have hb48 := far_of (Bx := wi.heap.size) (cs := #[.string sS, .int .u8 dS]) (t := 48) ((Below.heap_alloc _ _ _ (by simp)).trans (World.alloc_heap_new wi (.cells #[.string sS, .int .u8 dS] 48))) ((hrow.alloc _).alloc _) (by decide) hg6; obtain ⟨z0, z1⟩ := two48 hb48; have HSN6 : Hid (StrsAt w6 na N) := hN.out.below (HBwz.out.trans ((below_app HEx.out.below HEx.out.row hg6).mono HBwz.out.size)))
                                                  | (go_at_call 7; refine (bhas_yes na nc i N sS _ hNl.out (by omega) HSN6.out HIN.out).mono ?_; rintro e w' ⟨rfl, rfl⟩))
                                                  go_roundw
                                                  case rel => exact ⟨r + 1, ul + 1, g6, c6, n5, by omega, by go_num, rfl, rfl, HEx.out.push HRL.out HEL.out ho6 hg6 (by rw [HRc.out]; rfl)⟩
                                                  case measure => simp [intOf]; omega
                                                · have HRc : Hid (rc D sS = 1) := rc_out HR.out hNl.out hin
                                                  have HIN : Hid (sS ∉ N) := hin
                                                  clear hin
                                                  go_wp2_with (first
                                                  | (at_builtin; refine wpList_append_lies _ rfl (.tmp 264) (.tmp 267) 36 rfl wz.heap.size 9 i9 _ 1 16 Ybaf.underlying36 hi9 hy0 hy1 hy2 rfl (by omega) _ ul _ rfl ((hrow.alloc _).alloc _) ⟨wi.heap.size + 1, 0, none⟩ 1 1 [Value.string sS] rfl rfl (by have hnb := World.news_of_block (cs := #[Value.string sS]) (t := 9) (fr := (0, 0)) (heap_alloc_new (wi.alloc (.cells #[.string sS, .int .u8 dS] 48)) (.cells #[Value.string sS] 9)); simpa using hnb) (by simp [Value.oneCell']) (by omega) (by unfold maxLen; omega) (by omega) (by simp; omega) (wi.heap.size + 2) (by simp) ?_; intro g6 c6 w6 ho6 hg6 hat6 hlt6; have hb48 := far_of (Bx := wi.heap.size) (cs := #[.string sS, .int .u8 dS]) (t := 48) ((Below.heap_alloc _ _ _ (by simp)).trans (World.alloc_heap_new wi (.cells #[.string sS, .int .u8 dS] 48))) ((hrow.alloc _).alloc _) (by decide) hg6; obtain ⟨z0, z1⟩ := two48 hb48; have HSN6 : Hid (StrsAt w6 na N) := hN.out.below (HBwz.out.trans ((below_app HEx.out.below HEx.out.row hg6).mono HBwz.out.size)))
                                                  | (go_at_call 7; refine (bhas_no na nc i N sS _ hNl.out (by omega) HSN6.out HIN.out).mono ?_; rintro e w' ⟨rfl, rfl⟩))
                                                  go_roundw
                                                  case rel => exact ⟨r + 1, ul + 1, g6, c6, n5 + 1, by omega, by go_num, rfl, by go_num, HEx.out.push HRL.out HEL.out ho6 hg6 (by rw [HRc.out])⟩
                                                  case measure => simp [intOf]; omega
                                              · have y0 : (dS % 2 == 0) = false := by simp; omega
                                                have HEL : Hid (E.elemOf iq r = none) := show E.elemOf iq r = none by unfold Ents.elemOf; rw [HDS.out, if_neg (by omega)]
                                                clear hc2
                                                go_wp2_with fail
                                                go_roundw
                                                case rel => exact ⟨r + 1, ul, g5, c5, n5 + 1, by omega, by go_num, rfl, by go_num, HEx.out.skip HRL.out HEL.out⟩
                                                case measure => simp [intOf]; omega
                                            · obtain rfl : r = Lk := by omega
                                              have HEd : Exp E D iq n0 wz (E.el iq) ul n5 (.slice (some ⟨g5, 0, none⟩) ul c5) wi := by rw [HLe.out]; exact HEx.out
                                              obtain rfl : lu = ul := HLu.out.symm.trans HEd.done.1
                                              have HJc : Hid (nfOf D E ix (t + 1) = n5) := by
                                                show nfOf D E ix (t + 1) = n5
                                                rw [HNx.out, HJ.out, HEd.done.2]
                                                rfl
                                              have HSa : Hid (StrsAt wi (some ⟨gu, 0, none⟩) ((E.list iq).filterMap id)) := HUs.out.below (HEx.out.below.mono (Nat.le_refl _))
                                              have HSb : Hid (StrsAt wi (some ⟨g5, 0, none⟩) ((E.list iq).filterMap id)) := HEd.strs
                                              clear HEd
                                              go_wp2_with (go_at_call 9; refine (equal_any (some ⟨gu, 0, none⟩) (some ⟨g5, 0, none⟩) cu c5 lu ((E.list iq).filterMap id) wi HLu.out (by omega) HSa HSb).mono ?_; rintro e w9 ⟨rfl, hb9⟩)
                                              go_roundw
                                              case rel => exact ⟨t + 1, by omega, by go_num, by rw [HJc.out], HBxz.out.trans ((HEx.out.below.trans (hb9.mono HEx.out.below.size)).mono HBxz.out.size)⟩
                                              case measure => simp [intOf]; omega
                                    · have c0 : (d % 3 == 0) = false := by simp; omega
                                      have c1 : (d % 3 == 1) = true := by simp; omega
                                      have HJ : Hid (E.jv iq = .str kk) := show E.jv iq = .str kk by unfold Ents.jv; rw [HDe.out, if_neg (by omega), if_pos hc, HKe.out]
                                      clear hc
                                      obtain rfl : u = .slice none 0 0 := HOz.out.1 (by rw [HJ.out]; trivial)
                                      have hq36 := neq36n
                                      have HJc : Hid (nfOf D E ix (t + 1) = n0 + 1) := by
                                        show nfOf D E ix (t + 1) = n0 + 1
                                        rw [HNx.out, HJ.out]
                                        rfl
                                      go_wp2_with fail
                                      go_roundw
                                      case rel => exact ⟨t + 1, by omega, by go_num, by rw [HJc.out]; go_num, HBxz.out⟩
                                      case measure => simp [intOf]; omega
                                    · have c0 : (d % 3 == 0) = false := by simp; omega
                                      have c1 : (d % 3 == 1) = false := by simp; omega
                                      have HJ : Hid (E.jv iq = .arr []) := show E.jv iq = .arr [] by unfold Ents.jv; rw [HDe.out, if_neg (by omega), if_neg (by omega)]
                                      clear hc
                                      obtain rfl : u = .slice none 0 0 := HOz.out.1 (by rw [HJ.out]; rfl)
                                      have hq36 := neq36n
                                      have HJc : Hid (nfOf D E ix (t + 1) = n0) := by
                                        show nfOf D E ix (t + 1) = n0
                                        rw [HNx.out, HJ.out]
                                        rfl
                                      go_wp2_with fail
                                      go_roundw
                                      case rel => exact ⟨t + 1, by omega, by go_num, by rw [HJc.out], HBxz.out⟩
                                      case measure => simp [intOf]; omega
                              · obtain rfl : t = L := by omega
                                go_wp2_with fail
                                go_meet
                                case rel =>
                                  obtain ⟨ys, hys⟩ := HFu.out.flt
                                  exact ⟨HG.out.below.trans (HBt.out.mono HG.out.below.size), nt, ys, rfl, by omega, by rw [← HNt.out]; exact hys.below HBt.out, fun h => by have := HMo.out; omega⟩
                    case rest =>
                      as_aux_lemma =>
                        rename World => wy
                        obtain ⟨nf, ys, rfl, hnf, hfl2, h1⟩ := hcut.res
                        have HBy : Hid (Below wc.heap.size wc wy) := hcut.below
                        have H1 : Hid (mo3 = 1 → nf = 1 ∧ ∃ q, ys = [.string (mpath path ASG), .string q]) := h1
                        obtain ⟨v, hv, ho⟩ := hfl2.row
                        obtain ⟨va, vc, rfl⟩ := row_slice ho
                        have hcv := hv.cell
                        have HRow : Hid (wy.ownsRow wc.heap.size 33 2 (.slice va (j + nf) vc) (j + nf) (pri j ++ ys)) := ho
                        clear hcut h1 hfl2 hv ho
                        obtain ⟨nt, hnt⟩ : ∃ x, x = j + nf := ⟨_, rfl⟩
                        rw [← hnt] at hcv HRow
                        go_upto_region 98 with fail
                        have hm3' := hm3
                        clear hm3
                        go_wp2_with fail
                        go_loop [38] (fun i => ∃ r : Nat, r ≤ j ∧ i = .int .i64 r) (fun i => j - (intOf i).toNat)
                        case atStart => exact ⟨0, Nat.zero_le _, rfl⟩
                        case round =>
                          obtain ⟨r, hr, rfl⟩ := hrel
                          by_cases hlt : r < j
                          · obtain ⟨g, c, hg⟩ := row_slice_pos HRow.out (by omega)
                            cases hg
                            have p0 : wy.cell? ⟨g, r * 2, none⟩ = some (.string PR) := by rw [HRow.out.cellAt (r * 2) (by omega), List.getElem?_append_left (by rw [pri_length]; omega), pri_get j (r * 2) (by omega)]
                            have p1 : wy.cell? ⟨g, r * 2 + 1, none⟩ = some (.string PR) := by rw [HRow.out.cellAt (r * 2 + 1) (by omega), List.getElem?_append_left (by rw [pri_length]; omega), pri_get j (r * 2 + 1) (by omega)]
                            go_wp2_with fail
                            go_round
                            case rel => exact ⟨r + 1, by omega, by go_num⟩
                            case measure => simp [intOf]; omega
                          · obtain rfl : r = j := by omega
                            by_cases hm1' : mo3 = 1
                            · obtain ⟨hn1, q, hys⟩ := H1.out hm1'
                              obtain ⟨g, c, hg⟩ := row_slice_pos HRow.out (by omega)
                              cases hg
                              have p0 : wy.cell? ⟨g, r * 2, none⟩ = some (.string (mpath path ASG)) := by
                                rw [HRow.out.cellAt (r * 2) (by omega), List.getElem?_append_right (by rw [pri_length]; omega), pri_length, hys]
                                simp
                              clear hys
                              subst hm1'
                              have HBf : Hid (Below w.heap.size w wy) := HST.out.below.trans (HBy.out.mono HST.out.below.size)
                              by_cases hp : path.toList.isEmpty = true
                              · obtain rfl := nil_of_isEmpty hp
                                rw [mp_nil] at p0
                                clear hp
                                go_wp2_with fail
                                go_ret
                                exact ⟨rfl, HBf.out⟩
                              · have hp' : path.toList.isEmpty = false := by simpa using hp
                                rw [mp_ne hp'] at p0
                                clear hp
                                go_wp2_with fail
                                go_ret
                                exact ⟨rfl, HBf.out⟩
                            · have hm1'' : (mo3 == 1) = false := by simp; exact hm1'
                              have HBf : Hid (Below w.heap.size w wy) := HST.out.below.trans (HBy.out.mono HST.out.below.size)
                              go_wp2_with fail
                              go_ret
                              exact ⟨rfl, HBf.out⟩
end Go.Proofs.YbulkbmyaFmt.lawS3185BReads
