/- tiergate.LawS3185CStanding: the law's own walk. -/
import Derived.Test.YbulkbmyaCD
namespace Go.Proofs.Ybulkbmya.laws
open Go.RowKit Go.Maps

theorem has_yes (R : Lists) (cap : Nat) (s : ByteArray) (w : World) (h : R.In w) (hbig : R.n ≤ 256) (hbigs : ∀ j, j < R.n → R.L j ≤ 256) (hy : R.Any R.n s) :
    Calls Yba.prog 9 #[.slice R.a R.n cap, .string s] w fun e w' => e = .returned (.bool true) ∧ w = w' := by
  refine (has_either R cap s w h hbig hbigs).mono ?_
  rintro e w' ⟨⟨_, rfl⟩ | ⟨hn, _⟩, hb⟩
  · exact ⟨rfl, hb⟩
  · exact absurd hy hn
theorem has_no (R : Lists) (cap : Nat) (s : ByteArray) (w : World) (h : R.In w) (hbig : R.n ≤ 256) (hbigs : ∀ j, j < R.n → R.L j ≤ 256) (hn : ¬ R.Any R.n s) :
    Calls Yba.prog 9 #[.slice R.a R.n cap, .string s] w fun e w' => e = .returned (.bool false) ∧ w = w' := by
  refine (has_either R cap s w h hbig hbigs).mono ?_
  rintro e w' ⟨⟨hy, _⟩ | ⟨_, rfl⟩, hb⟩
  · exact absurd hy hn
  · exact ⟨rfl, hb⟩

set_option maxHeartbeats 400000 in
set_option maxRecDepth 100000 in
theorem standing_any (R : Lists) (cap : Nat) (org : ByteArray) (pick : Int) (w : World) (h : Hid (R.In w)) (horg : org.size ≤ maxLen) (hp0 : 0 ≤ pick) (hp1 : pick ≤ 65535) :
    Calls Yba.prog 3 #[.slice R.a R.n cap, .string org, .int .u16 pick] w fun e w' => e = .returned (.bool true) ∧ Below w.heap.size w w' := by
  have HO : Hid (org.size ≤ maxLen) := horg
  clear horg
  go_enter Yba.func3, Yba.ntmps3
  go_wp2_with fail
  refine (big_any R cap w h h.out.big).mono ?_
  rintro e w' ⟨rfl | ⟨rfl, hn, hL⟩, rfl⟩
  · go_wp2_with fail
    go_ret
    exact ⟨rfl, Below.refl _ _⟩
  · have HL : Hid (∀ j, j < R.n → R.L j ≤ 256) := hL
    clear hL
    go_wp2_with fail
    refine (build_any R cap w h hn HL).mono ?_
    rintro e w1 ⟨va, vc, ms, rfl, hB⟩
    have HB : Hid (Built w w1 R R.n ms va vc) := hB
    clear hB
    go_wp2_with fail
    have hb2 : Below w.heap.size w (w1.alloc (.cells (subj (.slice va R.n vc)) 29)) := HB.out.below.alloc HB.out.below.size _
    have HR : Hid (RolesAt (w1.alloc (.cells (subj (.slice va R.n vc)) 29)) R R.n ms va) := HB.out.roles.below ((Below.refl _ _).alloc (Nat.le_refl _) _)
    refine (pick_any R cap org pick _ (h.out.below hb2) hn HL HO.out hp0 hp1).mono ?_
    rintro e w' ⟨⟨o, hos, rfl⟩, rfl⟩
    have HOS : Hid (o.size ≤ maxLen) := hos
    clear hos
    by_cases ho : o.toList.isEmpty = true
    · obtain rfl := nil_of_isEmpty ho
      clear ho
      go_wp2_with (go_at_call 8; refine (stand_empty _ _ va R.n vc rfl).mono ?_; rintro e w3 ⟨rfl, hb3⟩)
      go_ret
      exact ⟨rfl, hb2.trans (hb3.mono hb2.size)⟩
    · have hoe : o.toList.isEmpty = false := by simpa using ho
      clear ho
      by_cases hy : R.Any R.n o
      · have HY : Hid (R.Any R.n o) := hy
        clear hy
        go_wp2_with fail
        refine (stand_yes R R.n vc ms va o HOS.out _ hn HR.out hoe HY.out).mono ?_
        rintro e w3 ⟨rfl, hb3⟩
        have hb4 : Below w.heap.size w w3 := hb2.trans (hb3.mono hb2.size)
        go_wp2_with fail
        refine (has_yes R cap o w3 (h.out.below hb4) hn HL.out HY.out).mono ?_
        rintro e w' ⟨rfl, rfl⟩
        go_wp2_with fail
        go_ret
        exact ⟨rfl, hb4⟩
      · have HY : Hid (¬ R.Any R.n o) := hy
        clear hy
        go_wp2_with fail
        refine (stand_no R R.n vc ms va o HOS.out _ hn HR.out hoe HY.out).mono ?_
        rintro e w3 ⟨rfl, hb3⟩
        have hb4 : Below w.heap.size w w3 := hb2.trans (hb3.mono hb2.size)
        go_wp2_with fail
        refine (has_no R cap o w3 (h.out.below hb4) hn HL.out HY.out).mono ?_
        rintro e w' ⟨rfl, rfl⟩
        go_wp2_with fail
        go_ret
        exact ⟨rfl, hb4⟩
end Go.Proofs.Ybulkbmya.laws
