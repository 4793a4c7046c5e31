/- tiergate.readAssign's second inner function; mapMembers. -/
import Derived.Test.YbulkbmyaFmtBD
import Derived.Deep.RegionHeld3
namespace Go.Proofs.YbulkbmyaFmt.lawS3185BReads
open Go.RowKit Go.Maps Go.Extern.Stop Go.Stop Go.Extern
open Go.Proofs.YbulkbmyaFmt.lawS3185AReads (mpath nil_of_isEmpty call14 guardF shape9 op9 Odd anyElem law9 key key_inj key_of isKey as_t_9 as_b_9)
set_option linter.unusedVariables false

/-- The role function's box. -/
def Clo (w : World) (Bf Br : Nat) : Prop := w.heap[Bf]? = some (.cells #[.func (.func 13) #[] #[.pointer (some ⟨Br, 0, none⟩)]] 58 (0, 0))
theorem Clo.kf {base R n : Nat} {w w' : World} {Bf Br : Nat} {xs : List Value} (h : Clo w Bf Br) (hf : Flt base R w n xs) (hk : KF base R w w') : Clo w' Bf Br := hk.cells h (hf.not_box h (by decide)) (by decide)
theorem Clo.cell {w : World} {Bf Br : Nat} (h : Clo w Bf Br) : w.cell? ⟨Bf, 0, none⟩ = some (.func (.func 13) #[] #[.pointer (some ⟨Br, 0, none⟩)]) := (cell_of_row w _ 0 _ _ _ h).trans rfl

theorem any_look {w : World} {m nn : Nat} {DM : DataW Value} {name : ByteArray} {x : Value} (hown : w.ownsMap Ybaf.prog 9 anyElem m nn DM) (hs : name.size ≤ maxLen) (hh : Maps.has DM (key name) = true) (hat : ∀ z, DM.atKey (key name) z = .held x) :
    (Instr.lookup 26 (.map (some m)) (.string name) true).run Ybaf.prog w = .ok (.tuple #[x, .bool true]) w := by
  obtain ⟨v, ps, hrun, hv⟩ := hown.look_ok law9 Ybaf.underlying26 (Go.Proofs.YbulkbmyaFmt.lawS3185AReads.zero20 w) (zd := .held .nilIface) (zp := []) rfl (key_of name hs)
  rw [hat] at hv
  simp only [anyElem, Option.some.injEq, Prod.mk.injEq, DataW.held.injEq] at hv
  rw [hrun, hv.1, hh]

set_option maxHeartbeats 1000000 in
set_option maxRecDepth 100000 in
theorem member_read (F : Interp) (base R n m nn Bf Br mr : Nat) (D DM : DataW Value) (j : JV) (x : Value) (xs : List Value) (p name : ByteArray) (w : World) (hF : Hid (F.answers w.tape)) (hn : n ≤ 40000000) (h : Hid (Flt base R w n xs)) (hr : Hid (RolesIn w Br mr D)) (hc : Hid (Clo w Bf Br))
    (h1 : p.size ≤ 1000000000000000) (h2 : name.size ≤ 1000000000000000) (hj : Hid (short j)) (hx : Hid (Lies w x j)) (hM : Hid (w.ownsMap Ybaf.prog 9 anyElem m nn DM)) (hat : Hid (Maps.has DM (key name) = true ∧ ∀ z, DM.atKey (key name) z = .held x)) :
    Calls Ybaf.prog 16 #[.pointer (some ⟨R, 0, none⟩), .map (some m), .string p, .string name, .pointer (some ⟨Bf, 0, none⟩)] w fun e w' => ∃ v, e = .returned v ∧ Out w' v j ∧ (∃ ys, Flt base R w' (n + (rc D name + jc D j)) (xs ++ ys)) ∧ KF base R w w' := by
  have hcc := hc.out.cell
  go_enter Ybaf.func16, Ybaf.ntmps16
  go_wp2_with fail
  have hbd : Below w.heap.size w w.drew := (Below.refl _ _).drew
  have hnm : name.size ≤ maxLen := by unfold maxLen; omega
  have HNM : Hid (name.size ≤ maxLen) := hnm
  have HF0 : Hid (F.answers w.drew.tape) := show F.answers w.drew.tape by rw [hbd.tape]; exact hF.out
  have HD : Hid (Below w.heap.size w w.drew) := hbd
  clear hbd hnm
  go_region_held3 (fun w' => w'.cell? ⟨Bf, 0, none⟩ = some (.func (.func 13) #[] #[.pointer (some ⟨Br, 0, none⟩)])) (go_keep) (first | (go_at_call 11; refine (member2 p name _ h1 h2).mono ?_; rintro e w' ⟨rfl, rfl⟩) | (go_at_call 13; refine (role_any F base R n Br mr D xs name _ HNM.out _ HF0.out (by omega) (h.out.below HD.out) (hr.out.below HD.out)).mono ?_; rintro e w3 ⟨rfl, ⟨ys2, hf3⟩, hk3⟩; have HF3 : Hid (Flt base R w3 (n + rc D name) (xs ++ ys2)) := hf3; have HK3 : Hid (KF base R w w3) := (KF.of_below HD.out).trans hk3; have hc3 := (hc.out.kf h.out HK3.out).cell; clear hf3 hk3))
  have HF1 : Hid (F.answers w3.tape) := show F.answers w3.tape by rw [HK3.out.tape]; exact hF.out
  have hrc := rc_le D name
  go_wp2_with (go_at_call 17; refine (readList_any F base R (n + rc D name) m Br mr D j x (xs ++ ys2) p name w3 HF1.out (by omega) HF3.out (hr.out.kf h.out HK3.out) h1 h2 hj.out (hx.out.kf h.out HK3.out) (any_look (owns_kf hM.out h.out HK3.out) HNM.out hat.out.1 hat.out.2)).mono ?_; rintro e w4 ⟨v, rfl, hO, ⟨ys3, hf4⟩, hk4⟩; have HO : Hid (Out w4 v j) := hO; have HF4 : Hid (Flt base R w4 (n + rc D name + jc D j) (xs ++ ys2 ++ ys3)) := hf4; have HK4 : Hid (KF base R w3 w4) := hk4; clear hO hf4 hk4)
  go_ret
  exact ⟨v, rfl, HO.out, ⟨ys2 ++ ys3, by rw [← List.append_assoc, ← Nat.add_assoc]; exact HF4.out⟩, HK3.out.trans HK4.out⟩
end Go.Proofs.YbulkbmyaFmt.lawS3185BReads
