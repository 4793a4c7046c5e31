/- tiergate.readAssign's inner function: a role's name, looked up. -/
import Derived.Test.YbulkbmyaFmtBA
namespace Go.Proofs.YbulkbmyaFmt.lawS3185BReads
open Go.RowKit Go.Maps Go.Extern.Stop Go.Stop Go.Extern
open Go.Proofs.YbulkbmyaFmt.lawS3185AReads (mpath nil_of_isEmpty path_any member_any fault_any wrong_any kind_odd call14 guardF shape9 op9 Odd anyElem law9 key key_inj key_of isKey)

/-- catalogueRole{}. -/
abbrev Z44 : Value := .agg #[.string ⟨#[]⟩, .slice none 0 0, .slice none 0 0, .slice none 0 0, .slice none 0 0]

/-- The roles: the box of the map; the map. -/
structure RolesIn (w : World) (Br mr : Nat) (D : DataW Value) : Prop where
  box : w.heap[Br]? = some (.cells #[.map (some mr)] 41 (0, 0))
  own : w.ownsMap Ybaf.prog 9 anyElem mr 300 D
  at_ : ∀ s z, Maps.has D (key s) = true → D.atKey (key s) z = .held Z44

theorem owns_map_block {w w' : World} {m n : Nat} {D : DataW Value} (h : w.ownsMap Ybaf.prog 9 anyElem m n D) (hb : w'.heap[m]? = w.heap[m]?) : w'.ownsMap Ybaf.prog 9 anyElem m n D := by
  obtain ⟨es, clock, h1, h2⟩ := h
  exact ⟨es, clock, hb.trans h1, h2⟩
theorem owns_isMap {w : World} {m n : Nat} {D : DataW Value} (h : w.ownsMap Ybaf.prog 9 anyElem m n D) : ∃ es clock, w.heap[m]? = some (.map es clock) := by
  obtain ⟨es, clock, h1, h2⟩ := h
  exact ⟨es, clock, h1⟩

/-- A map that the call holds, across a fault. -/
theorem owns_kf {base R n : Nat} {w w' : World} {m nn : Nat} {D : DataW Value} {xs : List Value} (h : w.ownsMap Ybaf.prog 9 anyElem m nn D) (hf : Flt base R w n xs) (hk : KF base R w w') : w'.ownsMap Ybaf.prog 9 anyElem m nn D := by
  obtain ⟨es, clock, e⟩ := owns_isMap h
  exact owns_map_block h ((hk.other e (hf.not_map e rfl) rfl).trans e.symm)

theorem RolesIn.kf {base R n : Nat} {w w' : World} {Br mr : Nat} {D : DataW Value} {xs : List Value} (h : RolesIn w Br mr D) (hf : Flt base R w n xs) (hk : KF base R w w') : RolesIn w' Br mr D :=
  ⟨hk.cells h.box (hf.not_box h.box (by decide)) (by decide), owns_kf h.own hf hk, h.at_⟩
theorem RolesIn.below {w w' : World} {Br mr : Nat} {D : DataW Value} (h : RolesIn w Br mr D) (hb : Below w.heap.size w w') : RolesIn w' Br mr D :=
  ⟨(hb.block _ (Array.getElem?_eq_some_iff.1 h.box).1).trans h.box, owns_map_block h.own (hb.block _ h.own.lt), h.at_⟩

theorem role_look {w : World} {mr : Nat} {D : DataW Value} (hown : w.ownsMap Ybaf.prog 9 anyElem mr 300 D) (hat : ∀ s z, Maps.has D (key s) = true → D.atKey (key s) z = .held Z44) (s : ByteArray) (hs : s.size ≤ maxLen) :
    (Instr.lookup 41 (.map (some mr)) (.string s) true).run Ybaf.prog w = .ok (.tuple #[Z44, .bool (Maps.has D (key s))]) w := by
  obtain ⟨v, ps, hrun, hv⟩ := hown.look_ok law9 Ybaf.underlying41 (Ybaf.zeroValue44 w) (zd := .held Z44) (zp := []) rfl (key_of s hs)
  have he : D.atKey (key s) (.held Z44) = .held Z44 := by
    cases hh : Maps.has D (key s) with
    | true => exact hat s _ hh
    | false => exact atKey_of_not_has hh _
  rw [he] at hv
  simp only [anyElem, Option.some.injEq, Prod.mk.injEq, DataW.held.injEq] at hv
  rw [hrun, hv.1]

/-- One fault where the name is no role's. -/
def rc (D : DataW Value) (s : ByteArray) : Nat := if Maps.has D (key s) = true then 0 else 1

set_option maxHeartbeats 400000 in
set_option maxRecDepth 100000 in
theorem role_any (F : Interp) (base R n Br mr : Nat) (D : DataW Value) (xs : List Value) (s p : ByteArray) (hs : s.size ≤ maxLen) (w : World) (hF : F.answers w.tape) (hn : n ≤ 100000000) (h : Flt base R w n xs) (hr : RolesIn w Br mr D) :
    Calls Ybaf.prog 13 #[.pointer (some ⟨R, 0, none⟩), .string s, .string p, .pointer (some ⟨Br, 0, none⟩)] w fun e w' => e = .returned (.string s) ∧ (∃ ys, Flt base R w' (n + rc D s) (xs ++ ys)) ∧ KF base R w w' := by
  have hc : w.cell? ⟨Br, 0, none⟩ = some (.map (some mr)) := (cell_of_row w _ 0 _ _ _ hr.box).trans rfl
  have hl := role_look hr.own hr.at_ s hs
  have HH : Hid (Flt base R w n xs) := h
  have HR : Hid (RolesIn w Br mr D) := hr
  clear h hr hs
  cases hb : Maps.has D (key s) with
  | true =>
    have HRC : Hid (rc D s = 0) := show rc D s = 0 by unfold rc; rw [if_pos hb]
    rw [hb] at hl
    clear hb
    go_enter Ybaf.func13, Ybaf.ntmps13
    go_wp2_with fail
    go_ret
    have hb1 : Below w.heap.size w (w.alloc (.cells #[.string ⟨#[]⟩, .slice none 0 0, .slice none 0 0, .slice none 0 0, .slice none 0 0] 44)) := (Below.refl _ _).alloc (Nat.le_refl _) _
    exact ⟨rfl, ⟨[], by rw [HRC.out, List.append_nil]; exact HH.out.below hb1⟩, KF.of_below hb1⟩
  | false =>
    have HRC : Hid (rc D s = 1) := show rc D s = 1 by unfold rc; rw [if_neg (by rw [hb]; simp)]
    rw [hb] at hl
    clear hb
    have hF' := answers_open hF
    have k1 := call14
    have k2 := guardF
    have k3 := fmtQ
    have k4 := fmtQr
    have k5 := op9q
    go_enter Ybaf.func13, Ybaf.ntmps13
    go_wp2_with fail
    have hbx : Below w.heap.size w ((w.alloc (.cells #[.string ⟨#[]⟩, .slice none 0 0, .slice none 0 0, .slice none 0 0, .slice none 0 0] 44)).alloc (.cells #[.iface 9 (.string s)] 20)).drew := (((Below.refl _ _).alloc (Nat.le_refl _) _).alloc (by simp) _).drew
    refine (fault' base R n xs p _ _ (by omega) (HH.out.below hbx)).mono ?_
    rintro e w2 ⟨rfl, hf2, hk2⟩
    have HF2 : Hid (Flt base R w2 (n + 1) _) := hf2
    have HK2 : Hid (KF base R w w2) := (KF.of_below hbx).trans hk2
    clear hf2 hk2 hbx k1 k2 k3 k4 k5 hF'
    go_wp2_with fail
    go_ret
    exact ⟨rfl, ⟨_, by rw [HRC.out]; exact HF2.out⟩, HK2.out⟩
end Go.Proofs.YbulkbmyaFmt.lawS3185BReads
