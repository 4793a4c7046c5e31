/- tiergate: a JSON value as it lies in memory; (*walker).list. -/
import Derived.Test.YbulkbmyaFmtBB
namespace Go.Proofs.YbulkbmyaFmt.lawS3185BReads
open Go.RowKit Go.Maps Go.Extern.Stop Go.Stop Go.Extern
open Go.Proofs.YbulkbmyaFmt.lawS3185AReads (mpath nil_of_isEmpty path_any member_any fault_any wrong_any kind_odd call14 guardF shape9 op9 Odd anyElem law9 key key_inj key_of isKey fmtW fmtWr as_t_9)

/-- A value of the tree: an array, each of whose elements is a string or (none) is not; or a string. -/
inductive JV where
  | arr (L : List (Option ByteArray))
  | str (s : ByteArray)

def ElemIs (v : Value) : Option ByteArray → Prop
  | some s => v = .iface 9 (.string s) ∧ s.size ≤ maxLen
  | none => ∃ b, v = .iface 4 (.bool b)

def Lies (w : World) (x : Value) : JV → Prop
  | .str s => x = .iface 9 (.string s)
  | .arr L => ∃ a c, x = .iface 27 (.slice a L.length c) ∧ (0 < L.length → ∃ g cur, a = some ⟨g, 0, none⟩ ∧ w.heap[g]? = some (.cells cur 20 (0, 0)) ∧ ∀ i, i < L.length → ∃ v, cur[i]? = some v ∧ ElemIs v (L.getD i none))

theorem Lies.same {w w' : World} {x : Value} {j : JV} (h : Lies w x j) (hk : ∀ (g : Nat) (cur : Array Value), w.heap[g]? = some (.cells cur 20 (0, 0)) → w'.heap[g]? = some (.cells cur 20 (0, 0))) : Lies w' x j := by
  cases j with
  | str s => exact h
  | arr L =>
    obtain ⟨a, c, e, hL⟩ := h
    refine ⟨a, c, e, fun h0 => ?_⟩
    obtain ⟨g, cur, ha, hg, hi⟩ := hL h0
    exact ⟨g, cur, ha, hk g cur hg, hi⟩
theorem Lies.kf {base R n : Nat} {w w' : World} {xs : List Value} {x : Value} {j : JV} (h : Lies w x j) (hf : Flt base R w n xs) (hk : KF base R w w') : Lies w' x j :=
  h.same fun _ _ hg => hk.cells hg (hf.not_box hg (by decide)) (by decide)
theorem Lies.below {w w' : World} {x : Value} {j : JV} (h : Lies w x j) (hb : Below w.heap.size w w') : Lies w' x j :=
  h.same fun _ _ hg => (hb.block _ (Array.getElem?_eq_some_iff.1 hg).1).trans hg

/-- The strings that are read. -/
def outs : JV → List ByteArray
  | .str _ => []
  | .arr L => L.filterMap id
/-- Does it read as nil? -/
def isNil : JV → Prop
  | .str _ => True
  | .arr L => L = []
def jcE (D : DataW Value) : Option ByteArray → Nat
  | some s => rc D s
  | none => 1
def jcL (D : DataW Value) (L : List (Option ByteArray)) : Nat := (L.map (jcE D)).sum
/-- The faults it brings. -/
def jc (D : DataW Value) : JV → Nat
  | .str _ => 1
  | .arr L => jcL D L

theorem rc_le (D : DataW Value) (s : ByteArray) : rc D s ≤ 1 := by unfold rc; split <;> omega
theorem jcE_le (D : DataW Value) (o : Option ByteArray) : jcE D o ≤ 1 := by cases o <;> simp [jcE, rc_le]
theorem jcL_le (D : DataW Value) (L : List (Option ByteArray)) : jcL D L ≤ L.length := by
  induction L with
  | nil => simp [jcL]
  | cons o L ih =>
    have := jcE_le D o
    simp only [jcL, List.map_cons, List.sum_cons, List.length_cons] at *
    omega
theorem jcL_snoc (D : DataW Value) (L : List (Option ByteArray)) (o : Option ByteArray) : jcL D (L ++ [o]) = jcL D L + jcE D o := by simp [jcL]

/-- What is read from a value: nil, or a slice of the strings, in a block of their own. -/
def Out (w : World) (v : Value) (j : JV) : Prop :=
  (isNil j → v = .slice none 0 0) ∧ (¬ isNil j → ∃ g c cur, v = .slice (some ⟨g, 0, none⟩) (outs j).length c ∧ w.heap[g]? = some (.cells cur 9 (0, 0)) ∧ ∀ i, i < (outs j).length → cur[i]? = some (.string ((outs j).getD i ⟨#[]⟩)))
theorem Out.same {w w' : World} {v : Value} {j : JV} (h : Out w v j) (hk : ∀ (g : Nat) (cur : Array Value), w.heap[g]? = some (.cells cur 9 (0, 0)) → w'.heap[g]? = some (.cells cur 9 (0, 0))) : Out w' v j := by
  refine ⟨h.1, fun hn => ?_⟩
  obtain ⟨g, c, cur, e, hg, hi⟩ := h.2 hn
  exact ⟨g, c, cur, e, hk g cur hg, hi⟩
theorem Out.kf {base R n : Nat} {w w' : World} {xs : List Value} {v : Value} {j : JV} (h : Out w v j) (hf : Flt base R w n xs) (hk : KF base R w w') : Out w' v j :=
  h.same fun _ _ hg => hk.cells hg (hf.not_box hg (by decide)) (by decide)
theorem Out.below {w w' : World} {v : Value} {j : JV} (h : Out w v j) (hb : Below w.heap.size w w') : Out w' v j :=
  h.same fun _ _ hg => (hb.block _ (Array.getElem?_eq_some_iff.1 hg).1).trans hg

theorem as_t_27 (s : ByteArray) (w : World) : (Instr.typeAssert (.iface 9 (.string s)) 20 27 true).run Ybaf.prog w = .ok (.tuple #[.slice none 0 0, .bool false]) w := by kernel_rfl
theorem as_t_26 (s : ByteArray) (w : World) : (Instr.typeAssert (.iface 9 (.string s)) 20 26 true).run Ybaf.prog w = .ok (.tuple #[.map none, .bool false]) w := by kernel_rfl
theorem as_s_27 (a : Option Addr) (n c : Nat) (w : World) : (Instr.typeAssert (.iface 27 (.slice a n c)) 20 27 true).run Ybaf.prog w = .ok (.tuple #[.slice a n c, .bool true]) w := by kernel_rfl
theorem as_m_26 (r : Option Nat) (w : World) : (Instr.typeAssert (.iface 26 (.map r)) 20 26 true).run Ybaf.prog w = .ok (.tuple #[.map r, .bool true]) w := by kernel_rfl

set_option maxRecDepth 100000 in
theorem kind_str (s : ByteArray) (w : World) : Calls Ybaf.prog 22 #[.iface 9 (.string s)] w fun e w' => (∃ s, e = .returned (.string s)) ∧ w = w' := by
  have h9 := as_t_9
  go_enter Ybaf.func22, Ybaf.ntmps22
  go_wp2
  go_ret
  exact ⟨⟨_, rfl⟩, rfl⟩

set_option maxHeartbeats 400000 in
set_option maxRecDepth 100000 in
theorem wrong_str (F : Interp) (base R n : Nat) (t : ByteArray) (xs : List Value) (p want : ByteArray) (w : World) (hF : F.answers w.tape) (hn : n ≤ 100000000) (h : Flt base R w n xs) :
    Calls Ybaf.prog 18 #[.pointer (some ⟨R, 0, none⟩), .string p, .string want, .iface 9 (.string t)] w fun e w' => ∃ q, e = .returned (.tuple #[]) ∧ Flt base R w' (n + 1) (xs ++ [.string p, .string q]) ∧ KF base R w w' := by
  have hF' := answers_open hF
  have k1 := call14
  have k2 := guardF
  have k3 := fmtW
  have k4 := fmtWr
  have k5 := op9
  have HH : Hid (Flt base R w n xs) := h
  clear h
  go_enter Ybaf.func18, Ybaf.ntmps18
  go_wp2_with (go_at_call 22; refine (kind_str t _).mono ?_; rintro e w' ⟨⟨s, rfl⟩, rfl⟩)
  have hbx : Below w.heap.size w (w.alloc (Obj.cells #[Value.iface 9 (Value.string want), Value.iface 9 (Value.string s)] 20)).drew := ((Below.refl _ _).alloc (Nat.le_refl _) _).drew
  refine (fault' base R n xs p _ _ (by omega) (HH.out.below hbx)).mono ?_
  rintro e w2 ⟨rfl, hf2, hk2⟩
  have HF2 : Hid (Flt base R w2 (n + 1) _) := hf2
  have HK2 : Hid (KF base R w w2) := (KF.of_below hbx).trans hk2
  clear hf2 hk2 hbx k1 k2 k3 k4 k5 hF'
  go_wp2_with fail
  go_end0
  exact ⟨_, rfl, HF2.out, HK2.out⟩

theorem member2 (p n : ByteArray) (w : World) (h1 : p.size ≤ 1000000000000000) (h2 : n.size ≤ 1000000000000000) : Calls Ybaf.prog 11 #[.string p, .string n] w fun e w' => e = .returned (.string (mpath p n)) ∧ w = w' := by
  by_cases hp : p.toList.isEmpty = true
  · rw [mpath, if_pos hp]
    obtain rfl := nil_of_isEmpty hp
    clear hp
    go_enter Ybaf.func11, Ybaf.ntmps11
    go_wp2
    go_ret
    exact ⟨rfl, rfl⟩
  · rw [mpath, if_neg hp]
    have hp' : p.toList.isEmpty = false := by simpa using hp
    clear hp
    go_enter Ybaf.func11, Ybaf.ntmps11
    go_wp2
    go_ret
    exact ⟨rfl, rfl⟩

set_option maxHeartbeats 400000 in
set_option maxRecDepth 100000 in
theorem list_arr (R m : Nat) (a : Option Addr) (k c : Nat) (p name : ByteArray) (w : World) (hl : (Instr.lookup 26 (.map (some m)) (.string name) true).run Ybaf.prog w = .ok (.tuple #[.iface 27 (.slice a k c), .bool true]) w) :
    Calls Ybaf.prog 21 #[.pointer (some ⟨R, 0, none⟩), .map (some m), .string p, .string name] w fun e w' => e = .returned (.slice a k c) ∧ w = w' := by
  have ha := as_s_27
  go_enter Ybaf.func21, Ybaf.ntmps21
  go_wp2_with fail
  go_ret
  exact ⟨rfl, rfl⟩

set_option maxHeartbeats 400000 in
set_option maxRecDepth 100000 in
theorem list_str (F : Interp) (base R n m : Nat) (t : ByteArray) (xs : List Value) (p name : ByteArray) (w : World) (hF : F.answers w.tape) (hn : n ≤ 100000000) (h : Flt base R w n xs) (h1 : p.size ≤ 1000000000000000) (h2 : name.size ≤ 1000000000000000)
    (hl : (Instr.lookup 26 (.map (some m)) (.string name) true).run Ybaf.prog w = .ok (.tuple #[.iface 9 (.string t), .bool true]) w) :
    Calls Ybaf.prog 21 #[.pointer (some ⟨R, 0, none⟩), .map (some m), .string p, .string name] w fun e w' => e = .returned (.slice none 0 0) ∧ (∃ ys, Flt base R w' (n + 1) (xs ++ ys)) ∧ KF base R w w' := by
  have ha := as_t_27
  have HH : Hid (Flt base R w n xs) := h
  have HF : Hid (F.answers w.tape) := hF
  clear h hF
  go_enter Ybaf.func21, Ybaf.ntmps21
  go_wp2_with (first
    | (go_at_call 11; refine (member2 p name _ h1 h2).mono ?_; rintro e w' ⟨rfl, rfl⟩)
    | (go_at_call 18; refine (wrong_str F base R n t xs _ _ _ HF.out hn HH.out).mono ?_; rintro e w' ⟨q, rfl, hf2, hk2⟩; have HF2 : Hid (Flt base R w' (n + 1) _) := hf2; have HK2 : Hid (KF base R w w') := hk2; clear hf2 hk2))
  go_ret
  exact ⟨rfl, ⟨_, HF2.out⟩, HK2.out⟩
end Go.Proofs.YbulkbmyaFmt.lawS3185BReads
