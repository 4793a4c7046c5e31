/- tiergate.inOrganization and Subject.standingIn. -/
import Derived.Test.YbulkbmyaCC
namespace Go.Proofs.Ybulkbmya.laws
open Go.RowKit Go.Maps

theorem role_look {w : World} {R : Lists} {j : Nat} {o : Option Nat} (h : RoleOk w R j o) (s : ByteArray) (hs : s.size ≤ maxLen) :
    ∃ b : Bool, (b = true ↔ R.Has j s) ∧ (Instr.lookup 41 (.map o) (.string s) true).run Yba.prog w = .ok (.tuple #[Z, .bool b]) w := by
  cases o with
  | none =>
    refine ⟨false, ⟨fun h => (by simp at h), fun ⟨i, hi, _⟩ => ?_⟩, Maps.look_nil true law9 Yba.underlying41 (zero45 w) (key_of s hs)⟩
    have h0 : R.L j = 0 := h
    omega
  | some m =>
    obtain ⟨D, hown, hk⟩ := h
    obtain ⟨v, ps, hrun, hv⟩ := hown.look_ok law9 Yba.underlying41 (zero45 w) (zd := .held Z) (zp := []) rfl (key_of s hs)
    refine ⟨Maps.has D (key s), hk.has s, ?_⟩
    have hat : D.atKey (key s) (.held Z) = .held Z := by
      cases hh : Maps.has D (key s) with
      | true => exact hk.at_ s _ ((hk.has s).1 hh)
      | false => exact atKey_of_not_has hh _
    rw [hat] at hv
    simp only [anyElem, Option.some.injEq, Prod.mk.injEq, DataW.held.injEq] at hv
    rw [hrun, hv.1]

set_option maxRecDepth 100000 in
theorem one_any (R : Lists) (j O : Nat) (o : Option Nat) (s : ByteArray) (hs : s.size ≤ maxLen) (w : World) (h : RoleOk w R j o) (hO : w.cell? ⟨O, 0, none⟩ = some (.string s)) :
    Calls Yba.prog 16 #[.agg #[.slice none 0 0, .slice none 0 0, .map o], .pointer (some ⟨O, 0, none⟩)] w fun e w' => (∃ b : Bool, (b = true ↔ R.Has j s) ∧ e = .returned (.bool b)) ∧ Below w.heap.size w w' := by
  have hOb : O < w.heap.size := by have := block_lt_of_cell hO; simpa using this
  obtain ⟨b, hb, hrun⟩ := role_look (h.below ((Below.refl _ _).alloc (Nat.le_refl _) (.cells #[.slice none 0 0, .slice none 0 0, .map o] 43))) s hs
  have HB : Hid (b = true ↔ R.Has j s) := hb
  clear hb h hs
  go_enter Yba.func16, Yba.ntmps16
  go_wp2
  go_ret
  exact ⟨⟨b, HB.out, rfl⟩, ((Below.refl _ _).alloc (Nat.le_refl _) _).alloc (by simp) _⟩

/-- The first m roles of the subject as they lie in memory. -/
def RolesAt (w : World) (R : Lists) (m : Nat) (ms : List (Option Nat)) (va : Option Addr) : Prop :=
  ∀ j, j < m → (∃ g, va = some ⟨g, 0, none⟩ ∧ g < w.heap.size ∧ w.cell? ⟨g, j * 3, none⟩ = some (.slice none 0 0) ∧ w.cell? ⟨g, j * 3 + 1, none⟩ = some (.slice none 0 0) ∧ w.cell? ⟨g, j * 3 + 2, none⟩ = some (.map (ms.getD j none))) ∧ RoleOk w R j (ms.getD j none)

theorem RolesAt.below {w w' : World} {R : Lists} {m : Nat} {ms : List (Option Nat)} {va : Option Addr} (h : RolesAt w R m ms va) (hb : Below w.heap.size w w') : RolesAt w' R m ms va := by
  intro j hj
  obtain ⟨⟨g, e, hg, h0, h1, h2⟩, hr⟩ := h j hj
  have s := hb.size
  exact ⟨⟨g, e, by omega, (hb.cell (p := ⟨g, _, none⟩) hg).trans h0, (hb.cell (p := ⟨g, _, none⟩) hg).trans h1, (hb.cell (p := ⟨g, _, none⟩) hg).trans h2⟩, hr.below hb⟩
theorem RolesAt.le {w : World} {R : Lists} {m m' : Nat} {ms : List (Option Nat)} {va : Option Addr} (h : RolesAt w R m ms va) (hm : m' ≤ m) : RolesAt w R m' ms va := fun j hj => h j (by omega)

theorem Built.roles {w w' : World} {R : Lists} {n : Nat} {ms : List (Option Nat)} {va : Option Addr} {vc : Nat} (h : Built w w' R n ms va vc) : RolesAt w' R n ms va := by
  intro j hj
  refine ⟨?_, h.maps j hj⟩
  rcases h.own.2 with ⟨h0, h1⟩ | ⟨g, cap, cur, h0, _, hh, _⟩
  · omega
  · simp at h0
    obtain ⟨rfl, rfl⟩ := h0
    have c : ∀ i, i < 3 → w'.cell? ⟨g, j * 3 + i, none⟩ = (role (ms.getD j none))[i]? := fun i hi => by
      rw [h.own.cellAt (j * 3 + i) (by omega), rcells_at ms j i (by have := h.len; omega) hi]
    exact ⟨g, rfl, lt_of_block hh, c 0 (by omega), c 1 (by omega), c 2 (by omega)⟩

set_option maxHeartbeats 400000 in
set_option maxRecDepth 100000 in
theorem index_any (R : Lists) (O m vc : Nat) (ms : List (Option Nat)) (va : Option Addr) (s : ByteArray) (hs : s.size ≤ maxLen) (w : World) (hm : m ≤ 256) (h : Hid (RolesAt w R m ms va)) (hO : w.cell? ⟨O, 0, none⟩ = some (.string s)) :
    Calls Yba.prog 17 #[.slice va m vc, .func (.func 16) #[] #[.pointer (some ⟨O, 0, none⟩)]] w fun e w' =>
      ((∃ j : Nat, j < m ∧ R.Has j s ∧ e = .returned (.int .i64 j)) ∨ ((∀ j, j < m → ¬ R.Has j s) ∧ e = .returned (.int .i64 (-1)))) ∧ Below w.heap.size w w' := by
  have hOb : O < w.heap.size := by have := block_lt_of_cell hO; simpa using this
  have HS : Hid (s.size ≤ maxLen) := hs
  clear hs
  go_enter Yba.func17, Yba.ntmps17
  go_wp2_with fail
  go_loopw [8] (fun i wr => ∃ k : Nat, k ≤ m ∧ i = .int .i64 k ∧ (∀ j, j < k → ¬ R.Has j s) ∧ Below w.heap.size w wr) (fun i _ => m - (intOf i).toNat)
  case atStart => exact ⟨0, Nat.zero_le _, rfl, fun j h => by omega, Below.refl _ _⟩
  case round =>
    obtain ⟨k, hk, rfl, hno, hbel⟩ := hrel
    have HN : Hid (∀ j, j < k → ¬ R.Has j s) := hno
    clear hno
    by_cases hlt : k < m
    · obtain ⟨⟨g, rfl, hg, r0, r1, r2⟩, hr⟩ := h.out.below hbel k hlt
      have hO' := (hbel.cell (p := ⟨O, 0, none⟩) hOb).trans hO
      have HR : Hid (RoleOk wr R k (ms.getD k none)) := hr
      clear hr hO
      generalize ms.getD k none = mo at r2 HR
      go_wp2_with (go_at_call 16; refine (one_any R k O mo s HS.out wr HR.out hO').mono ?_; rintro e w1 ⟨⟨b, hb, rfl⟩, hb1⟩; have HB : Hid (b = true ↔ R.Has k s) := hb; clear hb)
      · have hbt : b = true := by assumption
        go_ret
        exact ⟨.inl ⟨k, hlt, HB.out.1 hbt, rfl⟩, hbel.trans (hb1.mono hbel.size)⟩
      · have hbf : b = false := by assumption
        go_roundw
        case rel => exact ⟨k + 1, by omega, by go_num, fun j hj => by
          by_cases e : j = k
          · subst e
            intro hh
            have := HB.out.2 hh
            rw [hbf] at this
            simp at this
          · exact HN.out j (by omega), hbel.trans (hb1.mono hbel.size)⟩
        case measure => simp [intOf]; omega
    · obtain rfl : k = m := by omega
      go_wp2_with fail
      go_ret
      exact ⟨.inr ⟨HN.out, rfl⟩, hbel⟩

set_option maxRecDepth 100000 in
theorem contains_any (R : Lists) (O m vc : Nat) (ms : List (Option Nat)) (va : Option Addr) (s : ByteArray) (hs : s.size ≤ maxLen) (w : World) (hm : m ≤ 256) (h : Hid (RolesAt w R m ms va)) (hO : w.cell? ⟨O, 0, none⟩ = some (.string s)) :
    Calls Yba.prog 15 #[.slice va m vc, .func (.func 16) #[] #[.pointer (some ⟨O, 0, none⟩)]] w fun e w' =>
      ((R.Any m s ∧ e = .returned (.bool true)) ∨ (¬ R.Any m s ∧ e = .returned (.bool false))) ∧ Below w.heap.size w w' := by
  have HS : Hid (s.size ≤ maxLen) := hs
  clear hs
  go_enter Yba.func15, Yba.ntmps15
  go_wp2_with fail
  refine (index_any R O m vc ms va s HS.out w hm h hO).mono ?_
  rintro e w1 ⟨⟨j, hj, hh, rfl⟩ | ⟨hno, rfl⟩, hb⟩
  · have HH : Hid (R.Has j s) := hh
    clear hh h
    go_wp2_with fail
    go_ret
    exact ⟨.inl ⟨⟨j, hj, HH.out⟩, rfl⟩, hb⟩
  · have HH : Hid (∀ j, j < m → ¬ R.Has j s) := hno
    clear hno h
    go_wp2_with fail
    go_ret
    exact ⟨.inr ⟨fun ⟨j, hj, hh⟩ => HH.out j hj hh, rfl⟩, hb⟩

set_option maxRecDepth 100000 in
theorem in_either (R : Lists) (m vc : Nat) (ms : List (Option Nat)) (va : Option Addr) (s : ByteArray) (hs : s.size ≤ maxLen) (w : World) (hm : m ≤ 256) (h : Hid (RolesAt w R m ms va)) :
    Calls Yba.prog 12 #[.slice va m vc, .string s] w fun e w' => ((R.Any m s ∧ e = .returned (.bool true)) ∨ (¬ R.Any m s ∧ e = .returned (.bool false))) ∧ Below w.heap.size w w' := by
  have HS : Hid (s.size ≤ maxLen) := hs
  clear hs
  have hb0 : Below w.heap.size w (w.alloc (.cells #[.string s] 9)) := (Below.refl _ _).alloc (Nat.le_refl _) _
  go_enter Yba.func12, Yba.ntmps12
  go_wp2_with fail
  refine (contains_any R w.heap.size m vc ms va s HS.out _ hm (h.out.below hb0) ((World.cell?_alloc_at _ _ _ _ rfl).trans rfl)).mono ?_
  rintro e w1 ⟨h1, hb⟩
  have hbw : Below w.heap.size w w1 := hb0.trans (hb.mono (by simp))
  rcases h1 with ⟨hy, rfl⟩ | ⟨hn, rfl⟩
  · have HY : Hid (R.Any m s) := hy
    clear hy h hb0 hb
    go_wp2_with fail
    go_ret
    exact ⟨.inl ⟨HY.out, rfl⟩, hbw⟩
  · have HY : Hid (¬ R.Any m s) := hn
    clear hn h hb0 hb
    go_wp2_with fail
    go_ret
    exact ⟨.inr ⟨HY.out, rfl⟩, hbw⟩

theorem in_yes (R : Lists) (m vc : Nat) (ms : List (Option Nat)) (va : Option Addr) (s : ByteArray) (hs : s.size ≤ maxLen) (w : World) (hm : m ≤ 256) (h : RolesAt w R m ms va) (hy : R.Any m s) :
    Calls Yba.prog 12 #[.slice va m vc, .string s] w fun e w' => e = .returned (.bool true) ∧ Below w.heap.size w w' := by
  refine (in_either R m vc ms va s hs w hm h).mono ?_
  rintro e w' ⟨⟨_, rfl⟩ | ⟨hn, _⟩, hb⟩
  · exact ⟨rfl, hb⟩
  · exact absurd hy hn
theorem in_no (R : Lists) (m vc : Nat) (ms : List (Option Nat)) (va : Option Addr) (s : ByteArray) (hs : s.size ≤ maxLen) (w : World) (hm : m ≤ 256) (h : RolesAt w R m ms va) (hn : ¬ R.Any m s) :
    Calls Yba.prog 12 #[.slice va m vc, .string s] w fun e w' => e = .returned (.bool false) ∧ Below w.heap.size w w' := by
  refine (in_either R m vc ms va s hs w hm h).mono ?_
  rintro e w' ⟨⟨hy, _⟩ | ⟨_, rfl⟩, hb⟩
  · exact absurd hy hn
  · exact ⟨rfl, hb⟩

theorem nil_of_isEmpty {p : ByteArray} (h : p.toList.isEmpty = true) : p = ⟨#[]⟩ := by
  have h1 : p.toList = [] := by simpa using h
  have h2 : p.data.toList = [] := by rw [← ByteArray.toList_eq]; exact h1
  rcases p with ⟨d⟩
  rcases d with ⟨l⟩
  simp at h2
  rw [h2]

theorem stand_empty (v : Value) (w : World) (va : Option Addr) (n vc : Nat) (hv : v = .slice va n vc) :
    Calls Yba.prog 8 #[.agg (subj v), .string ⟨#[]⟩] w fun e w' => e = .returned (.int .i64 0) ∧ Below w.heap.size w w' := by
  subst hv
  go_enter Yba.func8, Yba.ntmps8
  go_wp2
  go_ret
  exact ⟨rfl, (Below.refl _ _).alloc (Nat.le_refl _) _⟩

set_option maxRecDepth 100000 in
theorem stand_yes (R : Lists) (m vc : Nat) (ms : List (Option Nat)) (va : Option Addr) (s : ByteArray) (hs : s.size ≤ maxLen) (w : World) (hm : m ≤ 256) (h : RolesAt w R m ms va) (hne : s.toList.isEmpty = false) (hy : R.Any m s) :
    Calls Yba.prog 8 #[.agg (subj (.slice va m vc)), .string s] w fun e w' => e = .returned (.int .i64 2) ∧ Below w.heap.size w w' := by
  have hb0 : Below w.heap.size w (w.alloc (.cells (subj (.slice va m vc)) 29)) := (Below.refl _ _).alloc (Nat.le_refl _) _
  have HI : Hid (RolesAt (w.alloc (.cells (subj (.slice va m vc)) 29)) R m ms va) := h.below hb0
  have HS : Hid (s.size ≤ maxLen) := hs
  have HY : Hid (R.Any m s) := hy
  clear h hs hy
  go_enter Yba.func8, Yba.ntmps8
  go_wp2_with (go_at_call 12; refine (in_yes R m vc ms va s HS.out _ hm HI.out HY.out).mono ?_; rintro e w1 ⟨rfl, hb⟩)
  go_ret
  exact ⟨rfl, hb0.trans (hb.mono (by simp))⟩

set_option maxRecDepth 100000 in
theorem stand_no (R : Lists) (m vc : Nat) (ms : List (Option Nat)) (va : Option Addr) (s : ByteArray) (hs : s.size ≤ maxLen) (w : World) (hm : m ≤ 256) (h : RolesAt w R m ms va) (hne : s.toList.isEmpty = false) (hn : ¬ R.Any m s) :
    Calls Yba.prog 8 #[.agg (subj (.slice va m vc)), .string s] w fun e w' => e = .returned (.int .i64 1) ∧ Below w.heap.size w w' := by
  have hb0 : Below w.heap.size w (w.alloc (.cells (subj (.slice va m vc)) 29)) := (Below.refl _ _).alloc (Nat.le_refl _) _
  have HI : Hid (RolesAt (w.alloc (.cells (subj (.slice va m vc)) 29)) R m ms va) := h.below hb0
  have HS : Hid (s.size ≤ maxLen) := hs
  have HY : Hid (¬ R.Any m s) := hn
  clear h hs hn
  go_enter Yba.func8, Yba.ntmps8
  go_wp2_with (go_at_call 12; refine (in_no R m vc ms va s HS.out _ hm HI.out HY.out).mono ?_; rintro e w1 ⟨rfl, hb⟩)
  go_ret
  exact ⟨rfl, hb0.trans (hb.mono (by simp))⟩
end Go.Proofs.Ybulkbmya.laws
