/- tiergate.readAssign. -/
import Derived.Test.YbulkbmyaFmtBF
namespace Go.Proofs.YbulkbmyaFmt.lawS3185BReads
open Go.RowKit Go.Maps Go.Extern.Stop Go.Stop Go.Extern
open Go.Proofs.YbulkbmyaFmt.lawS3185AReads (mpath nil_of_isEmpty call14 guardF shape9 op9 Odd anyElem law9 key key_inj key_of isKey as_t_9 as_b_9)
set_option linter.unusedVariables false

/-- "assign". -/
abbrev ASG : ByteArray := ⟨#[97, 115, 115, 105, 103, 110]⟩
theorem asg_size : ASG.size ≤ maxLen := by unfold maxLen; show 6 ≤ _; omega
theorem asg_le : ASG.size ≤ 1000000000000000 := by show 6 ≤ _; omega

theorem any_miss {w : World} {m nn : Nat} {DM : DataW Value} {name : ByteArray} (hown : w.ownsMap Ybaf.prog 9 anyElem m nn DM) (hs : name.size ≤ maxLen) (hh : Maps.has DM (key name) = false) :
    (Instr.lookup 26 (.map (some m)) (.string name) true).run Ybaf.prog w = .ok (.tuple #[.nilIface, .bool false]) w := by
  obtain ⟨v, ps, hrun, hv⟩ := hown.look_ok law9 Ybaf.underlying26 (Go.Proofs.YbulkbmyaFmt.lawS3185AReads.zero20 w) (zd := .held .nilIface) (zp := []) rfl (key_of name hs)
  rw [atKey_of_not_has hh] at hv
  simp only [anyElem, Option.some.injEq, Prod.mk.injEq, DataW.held.injEq] at hv
  rw [hrun, hv.1, hh]

set_option maxHeartbeats 400000 in
set_option maxRecDepth 100000 in
theorem object_miss (R m : Nat) (p name : ByteArray) (w : World) (hl : (Instr.lookup 26 (.map (some m)) (.string name) true).run Ybaf.prog w = .ok (.tuple #[.nilIface, .bool false]) w) :
    Calls Ybaf.prog 19 #[.pointer (some ⟨R, 0, none⟩), .map (some m), .string p, .string name] w fun e w' => e = .returned (.tuple #[.map none, .bool false]) ∧ w = w' := by
  go_enter Ybaf.func19, Ybaf.ntmps19
  go_wp2_with fail
  exact bodyPost_ret (v := .tuple #[.map none, .bool false]) (by simp [results, Ybaf.results19, go_sem]) rfl ⟨rfl, rfl⟩

set_option maxHeartbeats 400000 in
set_option maxRecDepth 100000 in
theorem object_map (R m : Nat) (r : Option Nat) (p name : ByteArray) (w : World) (hl : (Instr.lookup 26 (.map (some m)) (.string name) true).run Ybaf.prog w = .ok (.tuple #[.iface 26 (.map r), .bool true]) w) :
    Calls Ybaf.prog 19 #[.pointer (some ⟨R, 0, none⟩), .map (some m), .string p, .string name] w fun e w' => e = .returned (.tuple #[.map r, .bool true]) ∧ w = w' := by
  have ha := as_m_26
  go_enter Ybaf.func19, Ybaf.ntmps19
  go_wp2_with fail
  exact bodyPost_ret (v := .tuple #[.map r, .bool true]) (by simp [results, Ybaf.results19, go_sem]) rfl ⟨rfl, rfl⟩

set_option maxHeartbeats 400000 in
set_option maxRecDepth 100000 in
theorem object_str (F : Interp) (base R n m : Nat) (t : ByteArray) (xs : List Value) (p name : ByteArray) (w : World) (hF : F.answers w.tape) (hn : n ≤ 100000000) (h : Flt base R w n xs) (h1 : p.size ≤ 1000000000000000) (h2 : name.size ≤ 1000000000000000)
    (hl : (Instr.lookup 26 (.map (some m)) (.string name) true).run Ybaf.prog w = .ok (.tuple #[.iface 9 (.string t), .bool true]) w) :
    Calls Ybaf.prog 19 #[.pointer (some ⟨R, 0, none⟩), .map (some m), .string p, .string name] w fun e w' => e = .returned (.tuple #[.map none, .bool true]) ∧ (∃ q, Flt base R w' (n + 1) (xs ++ [.string (mpath p name), .string q])) ∧ KF base R w w' := by
  have ha := as_t_26
  have HH : Hid (Flt base R w n xs) := h
  have HF : Hid (F.answers w.tape) := hF
  clear h hF
  go_enter Ybaf.func19, Ybaf.ntmps19
  go_wp2_with (first
    | (go_at_call 11; refine (member2 p name _ h1 h2).mono ?_; rintro e w' ⟨rfl, rfl⟩)
    | (go_at_call 18; refine (wrong_str F base R n t xs _ _ _ HF.out hn HH.out).mono ?_; rintro e w' ⟨q, rfl, hf2, hk2⟩; have HF2 : Hid (Flt base R w' (n + 1) (xs ++ [.string (mpath p name), .string q])) := hf2; have HK2 : Hid (KF base R w w') := hk2; clear hf2 hk2))
  exact bodyPost_ret (v := .tuple #[.map none, .bool true]) (by simp [results, Ybaf.results19, go_sem]) rfl ⟨rfl, ⟨_, HF2.out⟩, HK2.out⟩

theorem mpath_size (p n : ByteArray) : (mpath p n).size ≤ p.size + 1 + n.size := by
  unfold mpath
  split
  · omega
  · have : ((p ++ (⟨#[46]⟩ : ByteArray)) ++ n).size = p.size + 1 + n.size := by rw [ByteArray.size_append, ByteArray.size_append]; rfl
    omega

set_option maxHeartbeats 400000 in
set_option maxRecDepth 100000 in
theorem rm_miss (R m Bf : Nat) (p : ByteArray) (w : World) (h1 : p.size ≤ 500000000000000) (hl : (Instr.lookup 26 (.map (some m)) (.string ASG) true).run Ybaf.prog w = .ok (.tuple #[.nilIface, .bool false]) w) :
    Calls Ybaf.prog 15 #[.pointer (some ⟨R, 0, none⟩), .map (some m), .string p, .string ASG, .func (.func 16) #[] #[.pointer (some ⟨Bf, 0, none⟩)]] w fun e w' => e = .returned (.map none) ∧ w = w' := by
  go_enter Ybaf.func15, Ybaf.ntmps15
  go_wp2_with (first
    | (go_at_call 19; refine (object_miss R m p ASG _ hl).mono ?_; rintro e w' ⟨rfl, rfl⟩)
    | (go_at_call 11; refine (member2 p ASG _ (by omega) asg_le).mono ?_; rintro e w' ⟨rfl, rfl⟩)
    | (go_at_call 20; refine (members_nil R Bf _ _).mono ?_; rintro e w' ⟨rfl, rfl⟩))
  go_ret
  exact ⟨rfl, rfl⟩

set_option maxHeartbeats 400000 in
set_option maxRecDepth 100000 in
theorem rm_str (F : Interp) (base R n m Bf : Nat) (t : ByteArray) (xs : List Value) (p : ByteArray) (w : World) (hF : Hid (F.answers w.tape)) (hn : n ≤ 1000000) (h : Hid (Flt base R w n xs)) (h1 : p.size ≤ 500000000000000)
    (hl : (Instr.lookup 26 (.map (some m)) (.string ASG) true).run Ybaf.prog w = .ok (.tuple #[.iface 9 (.string t), .bool true]) w) :
    Calls Ybaf.prog 15 #[.pointer (some ⟨R, 0, none⟩), .map (some m), .string p, .string ASG, .func (.func 16) #[] #[.pointer (some ⟨Bf, 0, none⟩)]] w fun e w' => e = .returned (.map none) ∧ (∃ q, Flt base R w' (n + 1) (xs ++ [.string (mpath p ASG), .string q])) ∧ KF base R w w' := by
  go_enter Ybaf.func15, Ybaf.ntmps15
  go_wp2_with (first
    | (go_at_call 19; refine (object_str F base R n m t xs p ASG _ hF.out (by omega) h.out (by omega) asg_le hl).mono ?_; rintro e w' ⟨rfl, hf2, hk2⟩; have HF2 : Hid (∃ q, Flt base R w' (n + 1) (xs ++ [.string (mpath p ASG), .string q])) := hf2; have HK2 : Hid (KF base R w w') := hk2; clear hf2 hk2)
    | (go_at_call 11; refine (member2 p ASG _ (by omega) asg_le).mono ?_; rintro e w' ⟨rfl, rfl⟩)
    | (go_at_call 20; refine (members_nil R Bf _ _).mono ?_; rintro e w' ⟨rfl, rfl⟩))
  go_ret
  exact ⟨rfl, HF2.out, HK2.out⟩

set_option maxHeartbeats 400000 in
set_option maxRecDepth 100000 in
theorem rm_none (R m mo nn Bf : Nat) (DM : DataW Value) (p : ByteArray) (w : World) (h1 : p.size ≤ 500000000000000) (hM : Hid (w.ownsMap Ybaf.prog 9 anyElem mo nn DM)) (h0 : Maps.size DM = 0)
    (hl : (Instr.lookup 26 (.map (some m)) (.string ASG) true).run Ybaf.prog w = .ok (.tuple #[.iface 26 (.map (some mo)), .bool true]) w) :
    Calls Ybaf.prog 15 #[.pointer (some ⟨R, 0, none⟩), .map (some m), .string p, .string ASG, .func (.func 16) #[] #[.pointer (some ⟨Bf, 0, none⟩)]] w fun e w' => e = .returned (.map none) ∧ w = w' := by
  go_enter Ybaf.func15, Ybaf.ntmps15
  go_wp2_with (first
    | (go_at_call 19; refine (object_map R m (some mo) p ASG _ hl).mono ?_; rintro e w' ⟨rfl, rfl⟩)
    | (go_at_call 11; refine (member2 p ASG _ (by omega) asg_le).mono ?_; rintro e w' ⟨rfl, rfl⟩)
    | (go_at_call 20; refine (members_none R mo nn Bf DM _ _ hM.out h0).mono ?_; rintro e w' ⟨rfl, rfl⟩))
  go_ret
  exact ⟨rfl, rfl⟩

set_option maxHeartbeats 400000 in
set_option maxRecDepth 100000 in
theorem rm_obj (F : Interp) (base R n m mo nn Bf Br mr : Nat) (D DM : DataW Value) (J : ByteArray → JV) (xs : List Value) (p : ByteArray) (w : World) (hF : Hid (F.answers w.tape)) (hn : n ≤ 1000000) (h : Hid (Flt base R w n xs)) (hr : Hid (RolesIn w Br mr D)) (hc : Hid (Clo w Bf Br))
    (h1 : p.size ≤ 500000000000000) (hM : Hid (w.ownsMap Ybaf.prog 9 anyElem mo nn DM)) (hnn : nn ≤ 300) (h0 : 0 < Maps.size DM) (hnd : Hid ((strKeys DM).Nodup))
    (hJ : Hid (∀ s : ByteArray, s.data.toList ∈ strKeys DM → short (J s) ∧ s.size ≤ 1000000000000000 ∧ Maps.has DM (key s) = true ∧ ∃ x, (∀ z, DM.atKey (key s) z = .held x) ∧ Lies w x (J s)))
    (hl : (Instr.lookup 26 (.map (some m)) (.string ASG) true).run Ybaf.prog w = .ok (.tuple #[.iface 26 (.map (some mo)), .bool true]) w) :
    Calls Ybaf.prog 15 #[.pointer (some ⟨R, 0, none⟩), .map (some m), .string p, .string ASG, .func (.func 16) #[] #[.pointer (some ⟨Bf, 0, none⟩)]] w fun e w' => ∃ m' D', e = .returned (.map (some m')) ∧ MapOut w' J DM m' D' ∧ (∃ ys, Flt base R w' (n + tot D J (strKeys DM)) (xs ++ ys)) ∧ KF base R w w' := by
  have hmp := mpath_size p ASG
  have hasg : ASG.size = 6 := rfl
  go_enter Ybaf.func15, Ybaf.ntmps15
  go_wp2_with (first
    | (go_at_call 19; refine (object_map R m (some mo) p ASG _ hl).mono ?_; rintro e w' ⟨rfl, rfl⟩)
    | (go_at_call 11; refine (member2 p ASG _ (by omega) asg_le).mono ?_; rintro e w' ⟨rfl, rfl⟩)
    | (go_at_call 20; refine (members_any F base R n mo nn Bf Br mr D DM J xs _ _ hF hn h hr hc (by omega) hM hnn h0 hnd hJ).mono ?_; rintro e w' ⟨m', D', rfl, hO, hf, hk⟩; have HO : Hid (MapOut w' J DM m' D') := hO; have HFl : Hid (∃ ys, Flt base R w' (n + tot D J (strKeys DM)) (xs ++ ys)) := hf; have HK : Hid (KF base R w w') := hk; clear hO hf hk))
  go_ret
  exact ⟨_, _, rfl, HO.out, HFl.out, HK.out⟩
end Go.Proofs.YbulkbmyaFmt.lawS3185BReads
