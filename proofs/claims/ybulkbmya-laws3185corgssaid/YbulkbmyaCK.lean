/- tiergate.LawS3185COrgs: the law's own walk. -/
import Derived.Test.YbulkbmyaCJ
namespace Go.Proofs.Ybulkbmya.laws
open Go.RowKit Go.Maps Go.Shelf

attribute [local go_sem] Oper.semAt_some

/-- The result is stored; the block for the rounds' deferred calls is shut. -/
theorem last_step {w W0 W w5 : World} {R : Lists} {cap b vc D : Nat} {ms : List (Option Nat)} {va : Option Addr} {pre : List Str} (i : Seen b W0 pre W) (h : Start w R cap b ms va vc W0) (hb : Below W.heap.size W w5) (hD : W0.heap.size ≤ D)
    (hK : W.heap[D]? = some (.deferred (some []))) :
    (w5.setCell ⟨w.heap.size + 1, 0, none⟩ (.bool true)).heap[D]? = some (.deferred (some [])) ∧ ((w5.setCell ⟨w.heap.size + 1, 0, none⟩ (.bool true)).putObj D (.deferred none)).cell? ⟨w.heap.size + 1, 0, none⟩ = some (.bool true) ∧
    Below w.heap.size w ((w5.setCell ⟨w.heap.size + 1, 0, none⟩ (.bool true)).putObj D (.deferred none)) := by
  have hl := h.lt
  have hs := h.size
  have hi := i.size h
  have k5 : w5.heap[D]? = some (.deferred (some [])) := (hb.block D (Array.getElem?_eq_some_iff.1 hK).1).trans hK
  have c6 : Boxed w5 (w.heap.size + 1) 4 (.bool false) := (hb.block _ (by omega)).trans ((i.below.block _ (by omega)).trans h.box6)
  have k6 := (KeepsOthers.setCell w5 ⟨w.heap.size + 1, 0, none⟩ (.bool true)).same D _ k5 rfl
  have hw : Below w.heap.size w w5 := (i.whole h).trans (hb.mono (by omega))
  refine ⟨k6, ?_, (hw.setCell (p := ⟨w.heap.size + 1, 0, none⟩) (by show w.heap.size ≤ w.heap.size + 1; omega) _).trans (belowK_b (w := w) (Nat.le_refl _) _ D _ _ (by omega) k6 rfl rfl)⟩
  have b6 := c6.set (.bool true)
  have : Boxed ((w5.setCell ⟨w.heap.size + 1, 0, none⟩ (.bool true)).putObj D (.deferred none)) (w.heap.size + 1) 4 (.bool true) := by
    have e : w.heap.size + 1 ≠ D := by omega
    exact (World.putObj_heap_other e).trans b6
  exact this.cell

theorem info9 : (Yba.prog.info? 9).map (fun i => (i.zero, i.size, i.bytes)) = some (some (.string ⟨#[]⟩), 1, 16) := by kernel_rfl

set_option maxRecDepth 100000 in
set_option maxHeartbeats 1000000 in
theorem lawOrgs_any (R : Lists) (cap : Nat) (org : ByteArray) (pick : Int) (w : World) (h : Hid (R.In w)) (horg : org.size ≤ maxLen) (hp0 : 0 ≤ pick) (hp1 : pick ≤ 65535) :
    Calls Yba.prog 4 #[.slice R.a R.n cap, .string org, .int .u16 pick] w fun e w' => e = .returned (.bool true) ∧ Below w.heap.size w w' := by
  obtain ⟨i0, hi9, hz0, hz1, hz2⟩ := info_parts info9
  have HO : Hid (org.size ≤ maxLen) := horg
  clear horg
  have hbA : Below w.heap.size w ((w.alloc (.cells #[.slice R.a R.n cap] 22)).alloc (.cells #[.bool false] 4)) := ((Below.refl _ _).alloc (Nat.le_refl _) _).alloc (by simp) _
  refine (callsIn_wide (n := 3)).1 ?_
  refine callsIn_of_wp_marks Yba.func4 rfl trivial ?_ rfl
  simp only [Yba.ntmps4, List.size_toArray, List.length_cons, List.length_nil, Nat.reduceAdd, Nat.reduceSub, Array.replicate_succ, Array.replicate_zero, List.push_toArray, List.append_toArray, List.nil_append, List.cons_append]
  gi_wp2_with fail
  refine ⟨trivial, ?_⟩
  gi_at_call 5
  refine (callsIn_wide.2 (big_any R cap _ (h.out.below hbA) h.out.big)).mono ?_
  rintro e w' ⟨rfl | ⟨rfl, hn, hL⟩, rfl⟩
  · gi_wp2_with fail
    refine ⟨.bool true, by simp [results, Yba.results4, go_sem], rfl, ((Below.refl _ _).alloc (Nat.le_refl _) _).alloc (by simp) _⟩
  · have HL : Hid (∀ j, j < R.n → R.L j ≤ 256) := hL
    clear hL
    gi_wp2_with fail
    refine ⟨trivial, ?_⟩
    gi_at_call 6
    refine (callsIn_wide.2 (build_any R cap _ (h.out.below hbA) hn HL)).mono ?_
    rintro e w1 ⟨va, vc, ms, rfl, hB⟩
    have HB : Hid (Built _ w1 R R.n ms va vc) := hB
    clear hB
    gi_wp2_with fail
    refine ⟨trivial, ?_⟩
    gi_at_call 10
    refine (callsIn_wide.2 (orgs_any _ _ va R.n vc rfl)).mono ?_
    rintro e w' ⟨rfl, rfl⟩
    gi_wp2_with fail
    obtain ⟨W0, hW0⟩ : ∃ W0, (((w1.alloc (.cells (subj (.slice va R.n vc)) 29)).alloc (.cells #[.slice none 0 0] 26)).alloc (.cells (subj (.slice va R.n vc)) 29)) = W0 := ⟨_, rfl⟩
    have HS : Hid (Start w R cap w1.heap.size ms va vc W0) := hW0 ▸ start_of HB.out
    change Code.wpIn _ _ _ _ _ _ (((w1.alloc (.cells (subj (.slice va R.n vc)) 29)).alloc (.cells #[.slice none 0 0] 26)).alloc (.cells (subj (.slice va R.n vc)) 29))
    rw [hW0]
    clear hW0 HB hbA
    refine wpIn_rangeFunc_ownG rfl (by omega) (gf := 13) (lb := #[.pointer (some ⟨w1.heap.size + 1 + 1, 0, none⟩)]) rfl trivial (enters_of Yba.func13 (by kernel_rfl) rfl)
      (orgs_stops _ (by omega) (w1.heap.size + 2) vc R ms va hn HS.out.cap W0 HS.out.lies) (fun h k => h.trans k) (fun W l o o' a b c d => keeps_put HS.out W l o o' a b c d) (Below.refl _ _) (fun _ => rfl)
      (Seen w1.heap.size W0) (fun c pre _ => c = .ret ∧ ¬ GoodPart R pre) (seen_own HS.out) (fun _ _ _ _ _ hs _ _ => hs) HS.out.seen
      (fun x => { tmps := #[.slice R.a R.n cap, .string org, .int .u16 pick, .pointer (some ⟨w.heap.size, 0, none⟩), undef, undef, .pointer (some ⟨w.heap.size + 1, 0, none⟩), .pointer (some ⟨w1.heap.size, 0, none⟩), .pointer (some ⟨w1.heap.size + 1, 0, none⟩), .string x.1, undef, undef, undef, undef, undef, .slice R.a R.n cap, .bool false, .slice R.a R.n cap, .agg (subj (.slice va R.n vc)), .agg #[.string ⟨#[]⟩, .slice va R.n vc, .slice none 0 0, .pointer none], .func (.func 13) #[] #[.pointer (some ⟨w1.heap.size + 1 + 1, 0, none⟩)], .string x.1, undef, undef, undef, undef, undef, undef, undef, undef, undef, undef, undef, undef, undef, undef, undef, undef, undef, undef, undef, undef, undef, undef, undef, undef, undef, undef, undef, undef, undef, undef, undef, undef, undef, undef, undef, undef, undef, undef, undef, undef, undef, undef, undef, undef, undef, undef, undef, undef, undef, undef, undef, undef, undef, undef, undef, undef, undef, undef, undef], defers := [] }) ?assign ?body ?done ?stop
    case assign =>
      intro l x W K hK
      gi_wp2
      exact hK
    case body =>
      rintro l pre x W hi hlen
      obtain ⟨c3, c6, f6, d0, d1, d2, d3⟩ := hi.cells HS.out
      obtain ⟨v, hv, hrow, _⟩ := hi.row
      obtain ⟨sa, sc, rfl, hstrs⟩ := row_slice hrow
      have HI : Hid (Seen w1.heap.size W0 pre W) := hi
      have HV : Hid (Boxed W (w1.heap.size + 1) 26 (.slice sa pre.length sc)) := hv
      have HRow : Hid (W.ownsRow (w1.heap.size + 1) 9 1 (.slice sa pre.length sc) pre.length (pre.map fun x => Value.string x.1)) := hrow
      have HT : Hid (Strs W sa (pre.map fun x => x.1)) := hstrs
      have HIn : Hid (R.In W) := h.out.below (hi.whole HS.out)
      have hc8 := hv.cell
      have hsz := hi.size HS.out
      obtain ⟨s, hs⟩ := x
      have HX : Hid (s.size ≤ maxLen) := hs
      clear hi hv hrow hstrs
      by_cases he : s.toList.isEmpty = true
      · have HN : Hid (¬ GoodPart R (pre ++ [⟨s, hs⟩])) := not_good_empty R pre ⟨s, hs⟩ (nil_of_isEmpty he)
        obtain rfl := nil_of_isEmpty he
        clear he
        gi_wp2
        refine ⟨trivial, ?_⟩
        gi_wp2
        refine ⟨trivial, ?_⟩
        gi_wp2
        exact ⟨(KeepsOthers.setCell _ _ _).from _, rfl, HN.out⟩
      · have hee : s.toList.isEmpty = false := by simpa using he
        have HE : Hid (s ≠ ⟨#[]⟩) := fun e => he (by subst e; rw [ByteArray.toList_eq]; rfl)
        clear he
        by_cases hm : s ∈ pre.map (fun x => x.1)
        · have HN : Hid (¬ GoodPart R (pre ++ [⟨s, hs⟩])) := not_good_mem R pre ⟨s, hs⟩ hm
          have HM : Hid (s ∈ pre.map (fun x => x.1)) := hm
          clear hm
          gi_wp2_with (refine ⟨trivial, ?_⟩; gi_at_call 11; refine (CallsIn.inRound l (callsIn_wide.2 (scontains_yes sa sc pre.length _ s W (by simp) (by omega) HT.out HM.out))).mono ?_; rintro e w' ⟨rfl, rfl⟩)
          refine ⟨trivial, ?_⟩
          gi_wp2
          exact ⟨(KeepsOthers.setCell _ _ _).from _, rfl, HN.out⟩
        · have HM : Hid (s ∉ pre.map (fun x => x.1)) := hm
          clear hm
          by_cases ha : R.Any R.n s
          · have HA : Hid (R.Any R.n s) := ha
            clear ha
            have HRoles : Hid (RolesAt W R R.n ms va) := (HI.out.lies HS.out).roles
            gi_wp2_with (first
              | (refine ⟨trivial, ?_⟩; gi_at_call 11; refine (CallsIn.inRound l (callsIn_wide.2 (scontains_no sa sc pre.length _ s W (by simp) (by omega) HT.out HM.out))).mono ?_; rintro e w' ⟨rfl, rfl⟩)
              | (refine ⟨trivial, ?_⟩; gi_at_call 9; refine (CallsIn.inRound l (callsIn_wide.2 (has_yes R cap s W HIn.out hn HL.out HA.out))).mono ?_; rintro e w' ⟨rfl, rfl⟩)
              | (refine ⟨trivial, ?_⟩; gi_at_call 8; refine (CallsIn.inRound l (callsIn_wide.2 (stand_yes R R.n vc ms va s HX.out W hn HRoles.out hee HA.out))).mono ?_; rintro e w3 ⟨rfl, hb3⟩; have hv3 : Boxed w3 (w1.heap.size + 1) 26 (.slice sa pre.length sc) := (hb3.block _ HV.out.lt).trans HV.out; have hrow3 := owns_below HRow.out hb3; have hc3 := hv3.cell; have hs3 := hb3.size; have HB3 : Hid (Below W.heap.size W w3) := hb3; have HV3 : Hid (Boxed w3 (w1.heap.size + 1) 26 (.slice sa pre.length sc)) := hv3; clear hb3 hv3)
              | (gi_at_builtin; refine wpListIn_append_own _ rfl _ _ 26 rfl (w1.heap.size + 1) 9 i0 (.string ⟨#[]⟩) 1 16 Yba.underlying26 hi9 hz0 hz1 hz2 rfl (by decide) _ _ _ rfl (hrow3.alloc _) ⟨w3.heap.size, 0, none⟩ 1 1 [.string s] rfl rfl (cell_one_new _ _ _) (by simp [Value.oneCell']) (by unfold maxLen; omega) (by omega) (by simp; omega) ?_; intro v' w4 hown4 hgrow4 _; obtain ⟨g', cap', rfl⟩ := ownsRow_succ hown4; have hv1 := (HV3.out.appended (by decide) hrow3 (by omega) (Nat.le_refl _) hown4 hgrow4).1; have hc9 := hv1.cell; have hf9 := hv1.frozen; clear hv1))
            exact HI.out.next (x := ⟨s, hs⟩) HS.out hlen HB3.out HV3.out hrow3 hown4 hgrow4
          · have HN : Hid (¬ GoodPart R (pre ++ [⟨s, hs⟩])) := not_good_any R pre ⟨s, hs⟩ ha
            have HA : Hid (¬ R.Any R.n s) := ha
            clear ha
            gi_wp2_with (first
              | (refine ⟨trivial, ?_⟩; gi_at_call 11; refine (CallsIn.inRound l (callsIn_wide.2 (scontains_no sa sc pre.length _ s W (by simp) (by omega) HT.out HM.out))).mono ?_; rintro e w' ⟨rfl, rfl⟩)
              | (refine ⟨trivial, ?_⟩; gi_at_call 9; refine (CallsIn.inRound l (callsIn_wide.2 (has_no R cap s W HIn.out hn HL.out HA.out))).mono ?_; rintro e w' ⟨rfl, rfl⟩))
            exact ⟨(KeepsOthers.setCell _ _ _).from _, rfl, HN.out⟩
    case done =>
      rintro D xs W hD hC hi hK
      obtain ⟨c3, c6, f6, d0, d1, d2, d3⟩ := hi.cells HS.out
      obtain ⟨v, hv, hrow, _⟩ := hi.row
      obtain ⟨sa, sc, rfl, hstrs⟩ := row_slice hrow
      have hlen := hi.len
      have HI : Hid (Seen w1.heap.size W0 xs W) := hi
      have HT : Hid (Strs W sa (xs.map fun x => x.1)) := hstrs
      have HIn : Hid (R.In W) := h.out.below (hi.whole HS.out)
      have hc8 := hv.cell
      have hsz := hi.size HS.out
      have HC : Hid (Came R R.n (fun _ => False) xs) := hC
      have HRoles : Hid (RolesAt W R R.n ms va) := (hi.lies HS.out).roles
      have HK : Hid (W.heap[D]? = some (.deferred (some []))) := hK
      have hmem : ∀ s : ByteArray, s.size ≤ maxLen → s ≠ ⟨#[]⟩ → (s ∈ xs.map (fun x => x.1) ↔ R.Any R.n s) := fun s hs h0 => by
        constructor
        · intro hm
          obtain ⟨y, hy, rfl⟩ := List.mem_map.1 hm
          exact ((hC.mem y).1 hy).2.resolve_right id
        · intro ha
          exact List.mem_map.2 ⟨⟨s, hs⟩, (hC.mem _).2 ⟨h0, .inl ha⟩, rfl⟩
      have HMem : Hid (∀ s : ByteArray, s.size ≤ maxLen → s ≠ ⟨#[]⟩ → (s ∈ xs.map (fun x => x.1) ↔ R.Any R.n s)) := hmem
      have hpick := pick_any R cap org pick W HIn.out hn HL HO.out hp0 hp1
      obtain ⟨Ra, hRa⟩ : ∃ x, x = R.a := ⟨_, rfl⟩
      have HRa : Hid (Ra = R.a) := hRa
      rw [← hRa] at c3 hpick ⊢
      have HP : Hid (Calls Yba.prog 7 #[.slice Ra R.n cap, .string org, .int .u16 pick] W fun e w' => (∃ o : ByteArray, o.size ≤ maxLen ∧ e = .returned (.string o)) ∧ W = w') := hpick
      clear hi hv hrow hstrs hC hK hmem hRa hpick
      gi_wp2
      gi_loop [45] (fun i => ∃ k : Nat, k ≤ R.n ∧ i = .int .i64 k) (fun i => R.n - (intOf i).toNat)
      case atStart => exact ⟨0, Nat.zero_le _, rfl⟩
      case round =>
        obtain ⟨k, hk, rfl⟩ := hrel
        by_cases hlt : k < R.n
        · obtain ⟨b, o, ha, hb, hc⟩ := HIn.out.row k hlt
          have hLk := HL.out k hlt
          have hkeys := fun h0 => HIn.out.keys (j := k) hlt h0
          have hsizes := fun i hi => HIn.out.size k hlt i hi
          obtain ⟨Lk, hLe⟩ : ∃ x, R.L k = x := ⟨_, rfl⟩
          obtain ⟨kk, hke⟩ : ∃ x, R.ka k = x := ⟨_, rfl⟩
          rw [hLe] at hc hLk hkeys hsizes
          rw [hke] at hc hkeys
          have HLe : Hid (R.L k = Lk) := hLe
          have HSz : Hid (∀ i, i < Lk → (R.K k i).size ≤ maxLen) := hsizes
          obtain rfl : Ra = some ⟨b, o, none⟩ := HRa.out.trans ha
          clear hLe hke ha hsizes HRa HP
          by_cases hL0 : 0 < Lk
          · obtain ⟨b2, o2, rfl, hb2, hkc⟩ := hkeys hL0
            have HKC : Hid (∀ i, i < Lk → W.cell? ⟨b2, o2 + i, none⟩ = some (.string (R.K k i))) := hkc
            clear hkeys hkc
            gi_wp2
            gi_loop [51] (fun i => ∃ m : Nat, m ≤ Lk ∧ i = .int .i64 m) (fun i => Lk - (intOf i).toNat)
            case atStart => exact ⟨0, Nat.zero_le _, rfl⟩
            case round =>
              obtain ⟨m, hm, rfl⟩ := hrel
              by_cases hml : m < Lk
              · have hc2 := HKC.out m hml
                have hks := HSz.out m hml
                have HA : Hid (R.Any R.n (R.K k m)) := ⟨k, hlt, m, by rw [HLe.out]; exact hml, rfl⟩
                generalize R.K k m = km at hc2 hks HA
                have HKS : Hid (km.size ≤ maxLen) := hks
                clear hks
                by_cases he : km.toList.isEmpty = true
                · obtain rfl := nil_of_isEmpty he
                  clear he
                  gi_wp2
                  refine ⟨trivial, ?_⟩
                  gi_wp2
                  go_round
                  case rel => exact ⟨m + 1, by omega, by go_num⟩
                  case measure => simp [intOf]; omega
                · have hee : km.toList.isEmpty = false := by simpa using he
                  have HIN : Hid (km ∈ xs.map (fun x => x.1)) := (HMem.out km HKS.out (fun e => he (by subst e; rw [ByteArray.toList_eq]; rfl))).2 HA.out
                  clear he
                  gi_wp2_with (refine ⟨trivial, ?_⟩; gi_at_call 11; refine (callsIn_wide.2 (scontains_yes sa sc xs.length _ km W (by simp) (by omega) HT.out HIN.out)).mono ?_; rintro e w' ⟨rfl, rfl⟩)
                  go_round
                  case rel => exact ⟨m + 1, by omega, by go_num⟩
                  case measure => simp [intOf]; omega
              · obtain rfl : m = Lk := by omega
                gi_wp2
                go_round
                case rel => exact ⟨k + 1, by omega, by go_num⟩
                case measure => simp [intOf]; omega
          · obtain rfl : Lk = 0 := by omega
            clear hkeys
            gi_wp2
            gi_loop [51] (fun i => i = .int .i64 0) (fun _ => 0)
            case atStart => rfl
            case round =>
              obtain rfl := hrel
              gi_wp2
              go_round
              case rel => exact ⟨k + 1, by omega, by go_num⟩
              case measure => simp [intOf]; omega
        · obtain rfl : k = R.n := by omega
          clear hlt hk
          gi_wp2_with fail
          refine ⟨trivial, ?_⟩
          gi_at_call 7
          refine (callsIn_wide.2 HP.out).mono ?_
          rintro e w' ⟨⟨o, hos, rfl⟩, rfl⟩
          have HOS : Hid (o.size ≤ maxLen) := hos
          clear hos HP
          by_cases he : o.toList.isEmpty = true
          · obtain rfl := nil_of_isEmpty he
            clear he
            gi_wp2_with (refine ⟨trivial, ?_⟩; gi_at_call 8; refine (callsIn_wide.2 (stand_empty _ W va R.n vc rfl)).mono ?_; rintro e w5 ⟨rfl, hb5⟩; have g6 := (hb5.cell (p := ⟨w.heap.size + 1, 0, none⟩) (by show w.heap.size + 1 < _; have := HS.out.lt; omega)).trans c6; have q6 := (World.frozen?_of_block (a := ⟨w.heap.size + 1, 0, none⟩) (hb5.block _ (by show w.heap.size + 1 < _; have := HS.out.lt; omega))).trans f6; have g8 := (hb5.cell (p := ⟨w1.heap.size + 1, 0, none⟩) (by show w1.heap.size + 1 < _; omega)).trans hc8; have HT5 : Hid (Strs w5 sa (xs.map fun x => x.1)) := HT.out.below hb5; have HB5 : Hid (Below W.heap.size W w5) := hb5; clear hb5)
            refine ⟨trivial, ?_⟩
            gi_wp2
            obtain ⟨hK', hr', hb'⟩ := last_step HI.out HS.out HB5.out hD HK.out
            refine ⟨by simp, .inl ⟨_, _, rfl, run_takeDeferred hK', ?_⟩⟩
            exact ⟨.bool true, by simp [results, Yba.results4, go_sem, hr'], rfl, hb'⟩
          · have hee : o.toList.isEmpty = false := by simpa using he
            have HE : Hid (o ≠ ⟨#[]⟩) := fun e => he (by subst e; rw [ByteArray.toList_eq]; rfl)
            clear he
            by_cases ha : R.Any R.n o
            · have HIN : Hid (o ∈ xs.map (fun x => x.1)) := (HMem.out o HOS.out HE.out).2 ha
              have HA : Hid (R.Any R.n o) := ha
              clear ha
              gi_wp2_with (first
                | (refine ⟨trivial, ?_⟩; gi_at_call 8; refine (callsIn_wide.2 (stand_yes R R.n vc ms va o HOS.out W hn HRoles.out hee HA.out)).mono ?_; rintro e w5 ⟨rfl, hb5⟩; have g6 := (hb5.cell (p := ⟨w.heap.size + 1, 0, none⟩) (by show w.heap.size + 1 < _; have := HS.out.lt; omega)).trans c6; have q6 := (World.frozen?_of_block (a := ⟨w.heap.size + 1, 0, none⟩) (hb5.block _ (by show w.heap.size + 1 < _; have := HS.out.lt; omega))).trans f6; have g8 := (hb5.cell (p := ⟨w1.heap.size + 1, 0, none⟩) (by show w1.heap.size + 1 < _; omega)).trans hc8; have HT5 : Hid (Strs w5 sa (xs.map fun x => x.1)) := HT.out.below hb5; have HB5 : Hid (Below W.heap.size W w5) := hb5; clear hb5)
                | (refine ⟨trivial, ?_⟩; gi_at_call 11; refine (callsIn_wide.2 (scontains_yes sa sc xs.length _ o w5 (by simp) (by omega) HT5.out HIN.out)).mono ?_; rintro e w' ⟨rfl, rfl⟩))
              obtain ⟨hK', hr', hb'⟩ := last_step HI.out HS.out HB5.out hD HK.out
              refine ⟨by simp, .inl ⟨_, _, rfl, run_takeDeferred hK', ?_⟩⟩
              exact ⟨.bool true, by simp [results, Yba.results4, go_sem, hr'], rfl, hb'⟩
            · have HIN : Hid (o ∉ xs.map (fun x => x.1)) := fun hm => ha ((HMem.out o HOS.out HE.out).1 hm)
              have HA : Hid (¬ R.Any R.n o) := ha
              clear ha
              gi_wp2_with (first
                | (refine ⟨trivial, ?_⟩; gi_at_call 8; refine (callsIn_wide.2 (stand_no R R.n vc ms va o HOS.out W hn HRoles.out hee HA.out)).mono ?_; rintro e w5 ⟨rfl, hb5⟩; have g6 := (hb5.cell (p := ⟨w.heap.size + 1, 0, none⟩) (by show w.heap.size + 1 < _; have := HS.out.lt; omega)).trans c6; have q6 := (World.frozen?_of_block (a := ⟨w.heap.size + 1, 0, none⟩) (hb5.block _ (by show w.heap.size + 1 < _; have := HS.out.lt; omega))).trans f6; have g8 := (hb5.cell (p := ⟨w1.heap.size + 1, 0, none⟩) (by show w1.heap.size + 1 < _; omega)).trans hc8; have HT5 : Hid (Strs w5 sa (xs.map fun x => x.1)) := HT.out.below hb5; have HB5 : Hid (Below W.heap.size W w5) := hb5; clear hb5)
                | (refine ⟨trivial, ?_⟩; gi_at_call 11; refine (callsIn_wide.2 (scontains_no sa sc xs.length _ o w5 (by simp) (by omega) HT5.out HIN.out)).mono ?_; rintro e w' ⟨rfl, rfl⟩))
              obtain ⟨hK', hr', hb'⟩ := last_step HI.out HS.out HB5.out hD HK.out
              refine ⟨by simp, .inl ⟨_, _, rfl, run_takeDeferred hK', ?_⟩⟩
              exact ⟨.bool true, by simp [results, Yba.results4, go_sem, hr'], rfl, hb'⟩
    case stop =>
      rintro D c pre W _ hg ⟨_, hb⟩ _
      exact absurd hg hb
end Go.Proofs.Ybulkbmya.laws
