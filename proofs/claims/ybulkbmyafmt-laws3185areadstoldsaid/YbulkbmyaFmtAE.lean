/- tiergate.LawS3185AReads: the law's own walk. -/
import Derived.Test.YbulkbmyaFmtAG
import Derived.Deep.DeepCutAuto
import Derived.BigQuiet
import Derived.Deep.QuietTactic
import Derived.WalkSmall
namespace Go.Proofs.YbulkbmyaFmt.lawS3185AReads
open Go.RowKit Go.Maps Go.Extern.Stop Go.Stop Go.Extern

theorem make26 (n : Int) (w : World) : (Instr.makeMap 26 (some (.int .i64 n))).run Ybaf.prog w = .ok (.map (some w.heap.size)) (w.alloc (.map #[] 0)) := by kernel_rfl
theorem make26' (w : World) : (Instr.makeMap 26 none).run Ybaf.prog w = .ok (.map (some w.heap.size)) (w.alloc (.map #[] 0)) := by kernel_rfl

/-- The entry at place j. -/
def EntAt (w : World) (a : Option Addr) (j : Nat) (k : ByteArray) (d : Int) (s : ByteArray) : Prop :=
  ∃ b o, a = some ⟨b, o, none⟩ ∧ b < w.heap.size ∧ w.cell? ⟨b, o + j * 3, none⟩ = some (.string k) ∧ w.cell? ⟨b, o + j * 3 + 1, none⟩ = some (.int .u8 d) ∧ w.cell? ⟨b, o + j * 3 + 2, none⟩ = some (.string s)
/-- The fault at place j. -/
def FltAt (w : World) (a : Option Addr) (j : Nat) (p q : ByteArray) : Prop :=
  ∃ b o, a = some ⟨b, o, none⟩ ∧ b < w.heap.size ∧ w.cell? ⟨b, o + j * 2, none⟩ = some (.string p) ∧ w.cell? ⟨b, o + j * 2 + 1, none⟩ = some (.string q)

theorem prior_news {w wr : World} {a' : Option Addr} {len' : Nat} {P Q : Nat → ByteArray} (hP : ∀ j, j < len' → FltAt w a' j (P j) (Q j)) (hb : Below w.heap.size w wr) : ∀ ad, a' = some ad → ∀ j u, (flt P Q len')[j]? = some u → wr.cell? (ad.add j) = some u := by
  rintro ad rfl
  refine flt_news ?_
  intro j hj
  obtain ⟨b, o, he, hlt, h0, h1⟩ := hP j hj
  simp at he
  subst he
  have e : ∀ i, (⟨b, o, none⟩ : Addr).add i = ⟨b, o + i, none⟩ := fun i => Go.WideShapes.add_plain b o i
  rw [e, e]
  exact ⟨(hb.cell (p := ⟨b, o + j * 2, none⟩) hlt).trans h0, (hb.cell (p := ⟨b, o + (j * 2 + 1), none⟩) hlt).trans h1⟩

theorem ne_bytes {a b : ByteArray} (h : a ≠ b) : (a.toList == b.toList) = false := by
  refine beq_eq_false_iff_ne.2 fun e => h ?_
  rw [ByteArray.toList_eq, ByteArray.toList_eq] at e
  exact ByteArray.ext (Array.toList_inj.1 e)

theorem below_put {w wr w1 : World} {o : Obj} (hb : Below w.heap.size w wr) (h : (wr.alloc o).grownBy w1 (some w.heap.size)) : Below w.heap.size w w1 :=
  (hb.alloc hb.size o).grown h (by have := hb.size; simp; omega) (fun k hk => by cases hk; exact Nat.le_refl _)
theorem below_put2 {w wr w1 : World} {o o' : Obj} (hb : Below w.heap.size w wr) (h : ((wr.alloc o).alloc o').grownBy w1 (some w.heap.size)) : Below w.heap.size w w1 :=
  ((hb.alloc hb.size o).alloc (by have := hb.size; simp; omega) o').grown h (by have := hb.size; simp; omega) (fun k hk => by cases hk; exact Nat.le_refl _)

set_option maxHeartbeats 2000000 in
set_option maxRecDepth 100000 in
theorem core (F : Interp) (a a' : Option Addr) (len cap len' cap' : Nat) (K S : Nat → ByteArray) (kd : Nat → Int) (P Q : Nat → ByteArray) (path name : ByteArray) (pick : Int) (w : World) (hF : Hid (F.answers w.tape))
    (hlen : len ≤ 1024) (hlen' : len' ≤ 1024) (hpick0 : 0 ≤ pick) (hpick1 : pick ≤ 255) (hpath : path.size ≤ 140737488355328) (hname : name.size ≤ 140737488355328)
    (hK : Hid (∀ j, j < len → (K j).size ≤ 140737488355328 ∧ 0 ≤ kd j ∧ kd j ≤ 255)) (hE : Hid (∀ j, j < len → EntAt w a j (K j) (kd j) (S j))) (hP : Hid (∀ j, j < len' → FltAt w a' j (P j) (Q j))) (hP0 : Hid (a' = none → len' = 0 ∧ cap' = 0)) :
    Calls Ybaf.prog 3 #[.slice a len cap, .slice a' len' cap', .string path, .string name, .int .u8 pick] w fun e w' => e = .returned (.bool true) ∧ Below w.heap.size w w' := by
  have hmm := make26
  have hmm' := make26'
  go_enter Ybaf.func3, Ybaf.ntmps3
  go_upto_region 3 with fail
  go_cut [36] from 21 to 36 (fun t wc => ∃ b : Bool, t = .bool b ∧ (b = true → 0 < len) ∧ w = wc)
  case first =>
    by_cases hl : 0 < len
    · go_wp2_with fail
      go_meet
      case rel => exact ⟨_, rfl, fun _ => hl, rfl⟩
    · go_wp2_with fail
      go_meet
      case rel => exact ⟨false, rfl, fun h => (by cases h), rfl⟩
  case rest =>
    obtain ⟨b, rfl, hb, rfl⟩ := hcut
    go_upto_if 36 with fail
    go_cut [3] from 37 to 46 (fun nm wc' => ∃ s : ByteArray, nm = .string s ∧ s.size ≤ 140737488355328 ∧ w = wc')
    case first =>
      cases b
      · go_wp2_with fail
        go_meet
        case rel => exact ⟨name, rfl, hname, rfl⟩
      · have hl := hb rfl
        clear hb
        obtain ⟨i, hi, hil⟩ : ∃ i : Nat, pick / 2 % ↑len = (i : Int) ∧ i < len := by
          have h1 := Int.emod_nonneg (pick / 2) (show (len : Int) ≠ 0 by omega)
          have h2 := Int.emod_lt_of_pos (pick / 2) (show (0 : Int) < (len : Int) by omega)
          exact ⟨(pick / 2 % ↑len).toNat, by omega, by omega⟩
        obtain ⟨b, o, rfl, hb, e0, e1, e2⟩ := hE.out i hil
        have hki := (hK.out i hil).1
        clear hE hP e1 e2
        generalize K i = ki at e0 hki
        go_wp2_with fail
        go_meet
        case rel => exact ⟨ki, rfl, hki, rfl⟩
    case rest =>
      obtain ⟨nm, rfl, hnm, rfl⟩ := hcut
      clear hname hb
      go_wp2_with fail
      go_loopw [52] (fun i wr => ∃ (k : Nat) (D : DataW Value), k ≤ len ∧ i = .int .i64 k ∧ wr.ownsMap Ybaf.prog 9 anyElem w.heap.size k D ∧ St K kd S nm k D ∧ Below w.heap.size w wr) (fun i _ => len - (intOf i).toNat)
      case atStart => exact ⟨0, .map [], Nat.zero_le _, rfl, World.ownsMap_made _ _ _ _, st_zero _ _ _ _, (Below.refl _ _).alloc (Nat.le_refl _) _⟩
      case round =>
        obtain ⟨k, D, hk, rfl, hown, hst, hbel⟩ := hrel
        by_cases hlt : k < len
        · obtain ⟨b, o, rfl, hb, e0, e1, e2⟩ := hE.out k hlt
          obtain ⟨hkk, hd0, hd1⟩ := hK.out k hlt
          replace e0 := (hbel.cell (p := ⟨b, _, none⟩) hb).trans e0
          replace e1 := (hbel.cell (p := ⟨b, _, none⟩) hb).trans e1
          replace e2 := (hbel.cell (p := ⟨b, _, none⟩) hb).trans e2
          clear hE hP hK
          obtain ⟨kk, hkeq⟩ : ∃ x, K k = x := ⟨_, rfl⟩
          obtain ⟨d, hdeq⟩ : ∃ x, kd k = x := ⟨_, rfl⟩
          obtain ⟨t, hteq⟩ : ∃ x, S k = x := ⟨_, rfl⟩
          rw [hkeq] at e0 hkk
          rw [hdeq] at e1 hd0 hd1
          rw [hteq] at e2
          have HK : Hid (K k = kk) := hkeq
          have HD : Hid (kd k = d) := hdeq
          have HS : Hid (S k = t) := hteq
          have hkk' : kk.size ≤ maxLen := by unfold maxLen; omega
          clear hkeq hdeq hteq
          rcases (show d % 5 = 0 ∨ d % 5 = 1 ∨ d % 5 = 2 ∨ d % 5 = 3 ∨ d % 5 = 4 by omega) with hc | hc | hc | hc | hc
          · have h0 : (d % 5 == 0) = true := by simp; omega
            go_wp2_with (at_mapUpdate; refine wpList_mapUpdate_own _ rfl _ _ _ 26 rfl 9 20 law9 Ybaf.underlying26 anyElem w.heap.size k D rfl (hown.alloc _) (by unfold maxLen; omega) _ _ _ rfl rfl (key_of kk hkk') _ [] rfl ?_; intro w1 hown1 hgrow1; have hbn := below_put hbel hgrow1; clear hgrow1)
            go_roundw
            case rel => exact ⟨k + 1, _, by omega, by go_num, hown1, by rw [← HK.out]; exact st_step hst hown.isMap (by rw [HD.out, HS.out]; exact ⟨fun _ => rfl, fun h => by omega⟩), hbn⟩
            case measure => simp [intOf]; omega
          · have h0 : (d % 5 == 0) = false := by simp; omega
            have h1 : (d % 5 == 1) = true := by simp; omega
            go_wp2_with (at_mapUpdate; refine wpList_mapUpdate_own _ rfl _ _ _ 26 rfl 9 20 law9 Ybaf.underlying26 anyElem w.heap.size k D rfl (hown.alloc _) (by unfold maxLen; omega) _ _ _ rfl rfl (key_of kk hkk') _ [] rfl ?_; intro w1 hown1 hgrow1; have hbn := below_put hbel hgrow1; clear hgrow1)
            go_roundw
            case rel => exact ⟨k + 1, _, by omega, by go_num, hown1, by rw [← HK.out]; exact st_step hst hown.isMap (by rw [HD.out, HS.out]; exact ⟨fun h => by omega, fun _ => .inl ⟨_, rfl⟩⟩), hbn⟩
            case measure => simp [intOf]; omega
          · have h0 : (d % 5 == 0) = false := by simp; omega
            have h1 : (d % 5 == 1) = false := by simp; omega
            have h2 : (d % 5 == 2) = true := by simp; omega
            go_wp2_with (at_mapUpdate; refine wpList_mapUpdate_own _ rfl _ _ _ 26 rfl 9 20 law9 Ybaf.underlying26 anyElem w.heap.size k D rfl ((hown.alloc _).alloc _) (by unfold maxLen; omega) _ _ _ rfl rfl (key_of kk hkk') _ [] rfl ?_; intro w1 hown1 hgrow1; have hbn := below_put2 hbel hgrow1; clear hgrow1)
            go_roundw
            case rel => exact ⟨k + 1, _, by omega, by go_num, hown1, by rw [← HK.out]; exact st_step hst hown.isMap (by rw [HD.out, HS.out]; exact ⟨fun h => by omega, fun _ => .inr (.inl ⟨_, _, _, rfl⟩)⟩), hbn⟩
            case measure => simp [intOf]; omega
          · have h0 : (d % 5 == 0) = false := by simp; omega
            have h1 : (d % 5 == 1) = false := by simp; omega
            have h2 : (d % 5 == 2) = false := by simp; omega
            have h3 : (d % 5 == 3) = true := by simp; omega
            go_wp2_with (at_mapUpdate; refine wpList_mapUpdate_own _ rfl _ _ _ 26 rfl 9 20 law9 Ybaf.underlying26 anyElem w.heap.size k D rfl ((hown.alloc _).alloc _) (by unfold maxLen; omega) _ _ _ rfl rfl (key_of kk hkk') _ [] rfl ?_; intro w1 hown1 hgrow1; have hbn := below_put2 hbel hgrow1; clear hgrow1)
            go_roundw
            case rel => exact ⟨k + 1, _, by omega, by go_num, hown1, by rw [← HK.out]; exact st_step hst hown.isMap (by rw [HD.out, HS.out]; exact ⟨fun h => by omega, fun _ => .inr (.inr (.inl ⟨_, rfl⟩))⟩), hbn⟩
            case measure => simp [intOf]; omega
          · have h0 : (d % 5 == 0) = false := by simp; omega
            have h1 : (d % 5 == 1) = false := by simp; omega
            have h2 : (d % 5 == 2) = false := by simp; omega
            have h3 : (d % 5 == 3) = false := by simp; omega
            go_wp2_with (at_mapUpdate; refine wpList_mapUpdate_own _ rfl _ _ _ 26 rfl 9 20 law9 Ybaf.underlying26 anyElem w.heap.size k D rfl (hown.alloc _) (by unfold maxLen; omega) _ _ _ rfl rfl (key_of kk hkk') _ [] rfl ?_; intro w1 hown1 hgrow1; have hbn := below_put hbel hgrow1; clear hgrow1)
            go_roundw
            case rel => exact ⟨k + 1, _, by omega, by go_num, hown1, by rw [← HK.out]; exact st_step hst hown.isMap (by rw [HD.out, HS.out]; exact ⟨fun h => by omega, fun _ => .inr (.inr (.inr rfl))⟩), hbn⟩
            case measure => simp [intOf]; omega
        · obtain rfl : k = len := by omega
          have hnm' : nm.size ≤ maxLen := by unfold maxLen; omega
          obtain ⟨es, clock, hmap, hlooks⟩ := looks_of hnm' hst hown
          have HM : Hid (wr.heap[w.heap.size]? = some (.map es clock)) := hmap
          have HL : Hid _ := hlooks
          clear hst hown hmap hlooks hlt hk hmm hmm'
          go_wp2_with fail
          go_loop [14, 15] (fun f i => ∃ m : Nat, m ≤ k ∧ f = .int .i64 (-1) ∧ i = .int .i64 ((m : Int) - 1) ∧ ∀ j, m ≤ j → j < k → K j ≠ nm) (fun _ i => (intOf i + 1).toNat)
          case atStart => exact ⟨k, Nat.le_refl _, rfl, by go_num, fun j h1 h2 => by omega⟩
          case round =>
            obtain ⟨m, hm, rfl, rfl, hno⟩ := hrel
            have HN : Hid (∀ j, m ≤ j → j < k → K j ≠ nm) := hno
            clear hno
            by_cases hm0 : 0 < m
            · obtain ⟨i, rfl⟩ : ∃ i, m = i + 1 := ⟨m - 1, by omega⟩
              obtain ⟨b, o, rfl, hb, e0, e1, e2⟩ := hE.out i (by omega)
              replace e0 := (hbel.cell (p := ⟨b, _, none⟩) hb).trans e0
              clear e1 e2
              by_cases hke : K i = nm
              · have hent := hE.out i (by omega)
                obtain ⟨x, hlk, hfit⟩ : ∃ x, Looks w.heap.size (.map es clock) nm x true ∧ Fits x (kd i) (S i) := by
                  rcases HL.out with ⟨h, _⟩ | ⟨j, x, hj, hjn, hlast, h1, h2⟩
                  · exact absurd hke (h i (by omega))
                  · have : j = i := by
                      rcases Nat.lt_trichotomy j i with h | h | h
                      · exact absurd hke (hlast i h (by omega))
                      · exact h
                      · exact absurd hjn (HN.out j (by omega) hj)
                    subst this
                    exact ⟨x, h1, h2⟩
                obtain ⟨hkk, hd0, hd1⟩ := hK.out i (by omega)
                have HK2 : Hid (Looks w.heap.size (.map es clock) nm x true) := hlk
                rw [hke] at e0
                obtain ⟨d, hdeq⟩ : ∃ d, kd i = d := ⟨_, rfl⟩
                obtain ⟨t, hteq⟩ : ∃ t, S i = t := ⟨_, rfl⟩
                rw [hdeq] at hd0 hd1 hfit
                rw [hteq] at hfit
                obtain ⟨b', o', hbo, _, g0, g1, g2⟩ := hent
                simp only [Option.some.injEq, Addr.mk.injEq, and_true] at hbo
                obtain ⟨rfl, rfl⟩ := hbo
                rw [hdeq] at g1
                rw [hteq] at g2
                have HG1 : Hid (w.cell? ⟨b, o + i * 3 + 1, none⟩ = some (.int .u8 d)) := g1
                have HG2 : Hid (w.cell? ⟨b, o + i * 3 + 2, none⟩ = some (.string t)) := g2
                have hi1 : (i : Int) < (k : Int) := by omega
                have hil : i < k := by omega
                clear hlk HL hE hK HN hm0 hm hke hdeq hteq g0 g1 g2 hkk
                obtain ⟨i0, hi, hz0, hz1, hz2⟩ := info_parts info33
                by_cases hd : d % 5 = 0
                · have hdb : (d % 5 == 0) = true := by simpa using hd
                  have hx := hfit.1 hd
                  subst hx
                  clear hfit hd
                  go_wp2_with (at_builtin; refine wpList_append_nil rfl (.const (.slice none 0 0)) (.tmp 115) 23 rfl w.heap.size 33 i0 _ 2 32 Ybaf.underlying23 hi hz0 hz1 hz2 rfl (by omega) rfl a' len' cap' (flt P Q len') rfl hP0.out (by rw [flt_length]) (prior_news hP.out hbel) (flt_one _ _ _) (by unfold maxLen; omega) (by omega) hbel.size ?_; intro va vc w1 ho hg hva; have B := (pre_of HM.out hbel ho hg).box; clear ho hg hva)
                  refine (req_hit w1.heap.size w.heap.size (.map es clock) path nm t _ B.map HK2.out).mono ?_
                  rintro e w3 ⟨rfl, rfl⟩
                  obtain ⟨⟨hr, hcells, hb3, hle⟩, hform⟩ := B.same
                  have e1 := (hb3.cell (p := ⟨b, o + i * 3 + 1, none⟩) hb).trans HG1.out
                  have e2 := (hb3.cell (p := ⟨b, o + i * 3 + 2, none⟩) hb).trans HG2.out
                  clear B HM HK2 hP0 hF hi hz0 hz1 hz2 HG1 HG2
                  generalize w1.alloc (.cells #[.slice va len' vc] 30) = w3 at hr hcells hb3 e1 e2 ⊢
                  have HC : Hid _ := hcells
                  clear hcells
                  rcases hform with ⟨rfl, rfl, rfl⟩ | ⟨g, rfl, hcap⟩
                  · clear HC hle
                    go_wp2_with fail
                    go_loopw [134] (fun i wx => i = .int .i64 0 ∧ wx = w3) (fun _ _ => 0)
                    case atStart => exact ⟨rfl, rfl⟩
                    case round =>
                      obtain ⟨rfl, rfl⟩ := hrel
                      go_wp2_with (go_at_call 6; refine (path_any path nm _ hpath hnm).mono ?_; rintro e w' ⟨rfl, rfl⟩)
                      go_ret
                      exact ⟨rfl, hb3⟩
                  · go_wp2_with fail
                    go_loopw [134] (fun i wx => ∃ (j q : Nat), j ≤ len' ∧ i = .int .i64 j ∧ wx = w3.drewN q) (fun i _ => len' - (intOf i).toNat)
                    case atStart => exact ⟨0, 0, Nat.zero_le _, rfl, rfl⟩
                    case round =>
                      obtain ⟨j, q, hj, rfl, rfl⟩ := hrel
                      by_cases hjl : j < len'
                      · obtain ⟨bp, op, rfl, hbp, p0, p1⟩ := hP.out j hjl
                        replace p0 := (hb3.cell (p := ⟨bp, _, none⟩) hbp).trans p0
                        replace p1 := (hb3.cell (p := ⟨bp, _, none⟩) hbp).trans p1
                        obtain ⟨gg, hgg, f0, f1⟩ := HC.out j hjl
                        obtain ⟨rfl, _⟩ : g = gg ∧ True := ⟨by simpa using hgg, trivial⟩
                        clear hgg
                        have hj0 : (0 : Int) ≤ (j : Int) := by omega
                        have hj1 : (j : Int) < (len' : Int) := by omega
                        have hj2 : (j : Int) < (len' : Int) + 1 := by omega
                        generalize P j = pj at p0 f0
                        generalize Q j = qj at p1 f1
                        go_wp2_with fail
                        go_quiet (fail)
                        go_wp2_with fail
                        go_roundw
                        case rel => exact ⟨j + 1, _, by omega, by go_num, rfl⟩
                        case measure => simp [intOf]; omega
                      · obtain rfl : j = len' := by omega
                        clear hjl hj
                        go_wp2_with (go_at_call 6; refine (path_any path nm _ hpath hnm).mono ?_; rintro e w' ⟨rfl, rfl⟩)
                        all_goals
                          go_ret
                          exact ⟨rfl, below_drewN hb3 _⟩
                · have hdb : (d % 5 == 0) = false := by simpa using hd
                  have HX : Hid (Odd x) := hfit.2 hd
                  clear hfit hd
                  go_wp2_with (at_builtin; refine wpList_append_nil rfl (.const (.slice none 0 0)) (.tmp 115) 23 rfl w.heap.size 33 i0 _ 2 32 Ybaf.underlying23 hi hz0 hz1 hz2 rfl (by omega) rfl a' len' cap' (flt P Q len') rfl hP0.out (by rw [flt_length]) (prior_news hP.out hbel) (flt_one _ _ _) (by unfold maxLen; omega) (by omega) hbel.size ?_; intro va vc w1 ho hg hva; have B := (pre_of HM.out hbel ho hg).box; clear ho hg hva)
                  refine (req_odd F w.heap.size w1.heap.size w.heap.size len' (.map es clock) (.slice va len' vc) x (flt P Q len') path nm _ (by rw [B.below.tape]; exact hF.out) (by omega) B.base B.r B.fz B.ne B.own hpath hnm HX.out B.map HK2.out).mono ?_
                  rintro e w3 ⟨g, cp, w2, qq, rfl, ho, hg, hl, rfl⟩
                  obtain ⟨⟨hr, hcells, hb3, hle⟩, c0, c1, hcap⟩ := B.added ho hg hl
                  have e1 := (hb3.cell (p := ⟨b, o + i * 3 + 1, none⟩) hb).trans HG1.out
                  have e2 := (hb3.cell (p := ⟨b, o + i * 3 + 2, none⟩) hb).trans HG2.out
                  clear ho hg hl B HM HK2 hP0 hF hi hz0 hz1 hz2 HG1 HG2 HX
                  generalize w2.setCell ⟨w1.heap.size, 0, none⟩ (.slice (some ⟨g, 0, none⟩) (len' + 1) cp) = w3 at hr hcells hb3 c0 c1 e1 e2 ⊢
                  have HC : Hid _ := hcells
                  clear hcells
                  go_wp2_with fail
                  go_loopw [134] (fun i wx => ∃ (j q : Nat), j ≤ len' ∧ i = .int .i64 j ∧ wx = w3.drewN q) (fun i _ => len' - (intOf i).toNat)
                  case atStart => exact ⟨0, 0, Nat.zero_le _, rfl, rfl⟩
                  case round =>
                    obtain ⟨j, q, hj, rfl, rfl⟩ := hrel
                    by_cases hjl : j < len'
                    · obtain ⟨bp, op, rfl, hbp, p0, p1⟩ := hP.out j hjl
                      replace p0 := (hb3.cell (p := ⟨bp, _, none⟩) hbp).trans p0
                      replace p1 := (hb3.cell (p := ⟨bp, _, none⟩) hbp).trans p1
                      obtain ⟨gg, hgg, f0, f1⟩ := HC.out j hjl
                      obtain ⟨rfl, _⟩ : g = gg ∧ True := ⟨by simpa using hgg, trivial⟩
                      clear hgg
                      have hj0 : (0 : Int) ≤ (j : Int) := by omega
                      have hj1 : (j : Int) < (len' : Int) := by omega
                      have hj2 : (j : Int) < (len' : Int) + 1 := by omega
                      generalize P j = pj at p0 f0
                      generalize Q j = qj at p1 f1
                      go_wp2_with fail
                      go_quiet (fail)
                      go_wp2_with fail
                      go_roundw
                      case rel => exact ⟨j + 1, _, by omega, by go_num, rfl⟩
                      case measure => simp [intOf]; omega
                    · obtain rfl : j = len' := by omega
                      clear hjl hj
                      go_wp2_with (go_at_call 6; refine (path_any path nm _ hpath hnm).mono ?_; rintro e w' ⟨rfl, rfl⟩)
                      all_goals
                        go_ret
                        exact ⟨rfl, below_drewN hb3 _⟩
              · have hkb : ((K i).toList == nm.toList) = false := ne_bytes hke
                have HKE : Hid (K i ≠ nm) := hke
                clear hke
                generalize K i = ki at e0 hkb
                go_wp2_with fail
                go_round
                case rel => exact ⟨i, by omega, rfl, by go_num, fun j h1 h2 => by
                  by_cases e : j = i
                  · subst e; exact HKE.out
                  · exact HN.out j (by omega) h2⟩
                case measure => simp [intOf]
            · obtain rfl : m = 0 := by omega
              have hlk : Looks w.heap.size (.map es clock) nm .nilIface false := by
                rcases HL.out with ⟨_, h⟩ | ⟨j, x, hj, hjn, _⟩
                · exact h
                · exact absurd hjn (HN.out j (by omega) hj)
              have HK2 : Hid (Looks w.heap.size (.map es clock) nm .nilIface false) := hlk
              clear hlk HL hE hK HN hm0 hm
              obtain ⟨i0, hi, hz0, hz1, hz2⟩ := info_parts info33
              go_wp2_with (at_builtin; refine wpList_append_nil rfl (.const (.slice none 0 0)) (.tmp 115) 23 rfl w.heap.size 33 i0 _ 2 32 Ybaf.underlying23 hi hz0 hz1 hz2 rfl (by omega) rfl a' len' cap' (flt P Q len') rfl hP0.out (by rw [flt_length]) (prior_news hP.out hbel) (flt_one _ _ _) (by unfold maxLen; omega) (by omega) hbel.size ?_; intro va vc w1 ho hg hva; have B := (pre_of HM.out hbel ho hg).box; clear ho hg hva)
              refine (req_miss w.heap.size w1.heap.size w.heap.size len' es clock (.slice va len' vc) (flt P Q len') path nm _ (by omega) B.base B.r B.fz B.ne B.own hpath hnm B.map HK2.out).mono ?_
              rintro e w3 ⟨g, cp, w2, rfl, ho, hg, hl, rfl⟩
              obtain ⟨⟨hr, hcells, hb3, hle⟩, c0, c1, hcap⟩ := B.added ho hg hl
              clear ho hg hl B HM HK2 hP0 hF hi hz0 hz1 hz2
              generalize w2.setCell ⟨w1.heap.size, 0, none⟩ (.slice (some ⟨g, 0, none⟩) (len' + 1) cp) = w3 at hr hcells hb3 c0 c1 ⊢
              have HC : Hid _ := hcells
              clear hcells
              go_wp2_with fail
              go_loopw [134] (fun i wx => ∃ (j q : Nat), j ≤ len' ∧ i = .int .i64 j ∧ wx = w3.drewN q) (fun i _ => len' - (intOf i).toNat)
              case atStart => exact ⟨0, 0, Nat.zero_le _, rfl, rfl⟩
              case round =>
                obtain ⟨j, q, hj, rfl, rfl⟩ := hrel
                by_cases hjl : j < len'
                · obtain ⟨bp, op, rfl, hbp, p0, p1⟩ := hP.out j hjl
                  replace p0 := (hb3.cell (p := ⟨bp, _, none⟩) hbp).trans p0
                  replace p1 := (hb3.cell (p := ⟨bp, _, none⟩) hbp).trans p1
                  obtain ⟨gg, hgg, f0, f1⟩ := HC.out j hjl
                  obtain ⟨rfl, _⟩ : g = gg ∧ True := ⟨by simpa using hgg, trivial⟩
                  clear hgg
                  have hj0 : (0 : Int) ≤ (j : Int) := by omega
                  have hj1 : (j : Int) < (len' : Int) := by omega
                  have hj2 : (j : Int) < (len' : Int) + 1 := by omega
                  generalize P j = pj at p0 f0
                  generalize Q j = qj at p1 f1
                  go_wp2_with fail
                  go_quiet (fail)
                  go_wp2_with fail
                  go_roundw
                  case rel => exact ⟨j + 1, _, by omega, by go_num, rfl⟩
                  case measure => simp [intOf]; omega
                · obtain rfl : j = len' := by omega
                  clear hjl hj
                  go_wp2_with (go_at_call 6; refine (path_any path nm _ hpath hnm).mono ?_; rintro e w' ⟨rfl, rfl⟩)
                  all_goals
                    go_ret
                    exact ⟨rfl, below_drewN hb3 _⟩
end Go.Proofs.YbulkbmyaFmt.lawS3185AReads
