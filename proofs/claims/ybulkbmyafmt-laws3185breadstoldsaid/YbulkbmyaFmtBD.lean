/- tiergate.readList[string, string]. -/
import Derived.Test.YbulkbmyaFmtBC
namespace Go.Proofs.YbulkbmyaFmt.lawS3185BReads
set_option linter.unusedVariables false
open Go.RowKit Go.Maps Go.Extern.Stop Go.Stop Go.Extern
open Go.Proofs.YbulkbmyaFmt.lawS3185AReads (mpath nil_of_isEmpty call14 guardF shape9 op9 Odd anyElem law9 key key_inj key_of isKey as_t_9 as_b_9)

theorem info9 : (Ybaf.prog.info? 9).map (fun i => (i.zero, i.size, i.bytes)) = some (some (.string ⟨#[]⟩), 1, 16) := by kernel_rfl

section
variable {base R n : Nat} {w w' wr w1 : World} {xs : List Value}
/-- A step that turns one block of the call's own. -/
theorem KF.grown {row : Option Nat} (h : KF base R w wr) (hg : wr.grownBy w1 row) (hr : ∀ r, row = some r → w.heap.size ≤ r) : KF base R w w1 :=
  ⟨hg.os.trans h.os, hg.tape.trans h.tape, hg.output.trans h.output, Nat.le_trans h.size hg.size, fun k hk hR hn => by
    have := h.size
    rw [hg.block k (by omega) (fun e => by have := hr k e.symm; omega)]
    exact h.block k hk hR hn⟩
/-- A row of another type, of one's own, across a fault. -/
theorem row_kf {b0 e size k : Nat} {v : Value} {ys : List Value} (h : wr.ownsRow b0 e size v k ys) (hf : Flt base R wr n xs) (hk : KF base R wr w1) (he : e ≠ 33) (he' : e ≠ 30) : w1.ownsRow b0 e size v k ys := by
  refine ⟨h.1, ?_⟩
  rcases h.2 with h | ⟨g, cap, cur, rfl, hb, hg, r⟩
  · exact .inl h
  · exact .inr ⟨g, cap, cur, rfl, hb, hk.cells hg (hf.not_box hg he') he, r⟩
/-- The faults, behind an append to a row of another type. -/
theorem Flt.appended {b0 e size k : Nat} {v : Value} {ys : List Value} (h : Flt base R w n xs) (ho : w.ownsRow b0 e size v k ys) (he : e ≠ 33) (he' : e ≠ 30) (hg : w.grownBy w1 v.ownBlock) : Flt base R w1 n xs := by
  rcases ho.2 with ⟨rfl, _⟩ | ⟨g, cap, cur, rfl, _, hgb, _⟩
  · obtain ⟨v', hv, ho'⟩ := h.row
    have hg' : w.grownBy w1 none := hg
    exact ⟨h.le, v', hv.kept hg' (by simp), ho'.kept hg' (by by_cases e : v'.ownBlock = none <;> simp [e])⟩
  · refine h.grown (r := g) hg (h.not_box hgb he') fun cs fr e' => ?_
    rw [hgb] at e'
    simp at e'
    exact he e'.2.1
theorem own_ge {b0 e size k : Nat} {v : Value} {ys : List Value} (ho : w.ownsRow b0 e size v k ys) : ∀ r, v.ownBlock = some r → b0 ≤ r := by
  intro r hr
  rcases ho.2 with ⟨rfl, _⟩ | ⟨g, cap, cur, rfl, hb, hgb, _⟩
  · simp [Value.ownBlock] at hr
  · simp [Value.ownBlock] at hr
    omega
end

/-- Between two rounds: i elements of L read. -/
structure LInv (F : Interp) (base R n : Nat) (D : DataW Value) (L : List (Option ByteArray)) (xs : List Value) (w wr : World) (i : Nat) (g k c : Nat) : Prop where
  flt : ∃ ys, Flt base R wr (n + jcL D (L.take i)) (xs ++ ys)
  kf : KF base R w wr
  len : k = (outs (.arr (L.take i))).length
  row : wr.ownsRow w.heap.size 9 1 (.slice (some ⟨g, 0, none⟩) k c) k ((outs (.arr (L.take i))).map Value.string)

theorem take_snoc (L : List (Option ByteArray)) (i : Nat) (hi : i < L.length) : L.take (i + 1) = L.take i ++ [L.getD i none] := by
  rw [List.take_add_one, List.getD_eq_getElem?_getD, List.getElem?_eq_getElem hi]
  rfl
theorem outs_len (L : List (Option ByteArray)) : (outs (.arr L)).length ≤ L.length := List.length_filterMap_le _ _

theorem LInv.start {F : Interp} {base R n : Nat} {D : DataW Value} {L : List (Option ByteArray)} {xs : List Value} {w w1 : World} {N : Nat} (h : Flt base R w n xs) (ho : w1.ownsRow w.heap.size 9 1 (.slice (some ⟨w.heap.size, 0, none⟩) 0 N) 0 []) (hg : w.grownBy w1 none) : LInv F base R n D L xs w w1 0 w.heap.size 0 N :=
  ⟨⟨[], by
    have hb : Below w.heap.size w w1 := ⟨hg.os, hg.tape, hg.output, hg.size, fun i hi => hg.block i hi (by simp)⟩
    simpa [jcL] using h.below hb⟩, KF.of_below ⟨hg.os, hg.tape, hg.output, hg.size, fun i hi => hg.block i hi (by simp)⟩, by simp [outs], by simpa [outs] using ho⟩

section
variable {F : Interp} {base R n : Nat} {D : DataW Value} {L : List (Option ByteArray)} {xs : List Value} {w wr w2 w3 w4 : World} {i g k c : Nat}
/-- A string has been read: the role looked up, the string appended. -/
theorem LInv.put {s : ByteArray} {g' c' : Nat} {ys : List Value} {v : Value} {tmp : Obj} (h : LInv F base R n D L xs w wr i g k c) (hi : i < L.length) (he : L.getD i none = some s) (hf0 : Flt base R w n xs)
    (hf : Flt base R w3 (n + jcL D (L.take i) + rc D s) (xs ++ ys)) (hk : KF base R wr w3) (hv : v = .slice (some ⟨g, 0, none⟩) k c) (hr3 : w3.ownsRow w.heap.size 9 1 v k ((outs (.arr (L.take i))).map Value.string))
    (ho : w4.ownsRow w.heap.size 9 1 (.slice (some ⟨g', 0, none⟩) (k + 1) c') (k + 1) ((outs (.arr (L.take i))).map Value.string ++ [.string s])) (hg : (w3.alloc tmp).grownBy w4 v.ownBlock) : LInv F base R n D L xs w w4 (i + 1) g' (k + 1) c' := by
  have hfa : Flt base R (w3.alloc tmp) (n + jcL D (L.take i) + rc D s) (xs ++ ys) := hf.below ((Below.refl _ _).alloc (Nat.le_refl _) _)
  refine ⟨⟨ys, ?_⟩, ?_, ?_, ?_⟩
  · rw [take_snoc L i hi, jcL_snoc, he]
    have := hfa.appended (hr3.alloc tmp) (by decide) (by decide) hg
    simpa [jcE, Nat.add_assoc] using this
  · exact ((h.kf.trans hk).trans (KF.alloc _ _)).grown hg (own_ge hr3)
  · rw [take_snoc L i hi, he, h.len]
    simp [outs]
  · rw [take_snoc L i hi, he]
    simpa [outs] using ho
/-- No string: a fault. -/
theorem LInv.miss {ys : List Value} (h : LInv F base R n D L xs w wr i g k c) (hi : i < L.length) (he : L.getD i none = none) (hf : Flt base R w3 (n + jcL D (L.take i) + 1) (xs ++ ys)) (hk : KF base R wr w3)
    (hr3 : w3.ownsRow w.heap.size 9 1 (.slice (some ⟨g, 0, none⟩) k c) k ((outs (.arr (L.take i))).map Value.string)) : LInv F base R n D L xs w w3 (i + 1) g k c := by
  refine ⟨⟨ys, ?_⟩, h.kf.trans hk, ?_, ?_⟩
  · rw [take_snoc L i hi, jcL_snoc, he]
    simpa [jcE, Nat.add_assoc] using hf
  · rw [take_snoc L i hi, he, h.len]
    simp [outs]
  · rw [take_snoc L i hi, he]
    simpa [outs] using hr3
theorem LInv.out (h : LInv F base R n D L xs w wr L.length g k c) (h0 : 0 < L.length) : Out wr (.slice (some ⟨g, 0, none⟩) k c) (.arr L) ∧ (∃ ys, Flt base R wr (n + jcL D L) (xs ++ ys)) ∧ KF base R w wr := by
  obtain ⟨h1, h2, h3, h4⟩ := h
  rw [List.take_length] at h1 h3 h4
  refine ⟨⟨fun hn => ?_, fun _ => ?_⟩, h1, h2⟩
  · have : L = [] := hn
    rw [this] at h0
    simp at h0
  · rcases h4.2 with ⟨e, _⟩ | ⟨g', cap, cur, e, hb, hg, hle, hmx, hsz, htk⟩
    · simp at e
    · simp at e
      obtain ⟨rfl, rfl⟩ := e
      refine ⟨g, c, cur, by rw [h3], hg, fun i hi => ?_⟩
      have := congrArg (fun l : List Value => l[i]?) htk
      simp only [Nat.mul_one] at this
      rw [List.getElem?_take_of_lt (by omega), Array.getElem?_toList] at this
      rw [this, List.getElem?_map, List.getElem?_eq_getElem hi, List.getD_eq_getElem?_getD, List.getElem?_eq_getElem hi]
      rfl
end

set_option maxHeartbeats 1000000 in
set_option maxRecDepth 100000 in
theorem readList_arr (F : Interp) (base R n m Br mr : Nat) (D : DataW Value) (L : List (Option ByteArray)) (a : Option Addr) (c : Nat) (xs : List Value) (p name : ByteArray) (w : World) (hF : Hid (F.answers w.tape)) (hn : n ≤ 50000000) (h : Hid (Flt base R w n xs)) (hr : Hid (RolesIn w Br mr D))
    (h1 : p.size ≤ 1000000000000000) (h2 : name.size ≤ 1000000000000000) (hL0 : 0 < L.length) (hL : L.length ≤ 300)
    (hx : Hid (0 < L.length → ∃ g cur, a = some ⟨g, 0, none⟩ ∧ w.heap[g]? = some (.cells cur 20 (0, 0)) ∧ ∀ i, i < L.length → ∃ v, cur[i]? = some v ∧ ElemIs v (L.getD i none)))
    (hl : (Instr.lookup 26 (.map (some m)) (.string name) true).run Ybaf.prog w = .ok (.tuple #[.iface 27 (.slice a L.length c), .bool true]) w) :
    Calls Ybaf.prog 17 #[.pointer (some ⟨R, 0, none⟩), .map (some m), .string p, .string name, .func (.func 13) #[] #[.pointer (some ⟨Br, 0, none⟩)]] w fun e w' => ∃ v, e = .returned v ∧ Out w' v (.arr L) ∧ (∃ ys, Flt base R w' (n + jcL D L) (xs ++ ys)) ∧ KF base R w w' := by
  obtain ⟨i0, hi, hz0, hz1, hz2⟩ := info_parts info9
  obtain ⟨N, hN⟩ : ∃ x, L.length = x := ⟨_, rfl⟩
  have HN : Hid (L.length = N) := hN
  obtain ⟨gs, cur, rfl, hgs, hel⟩ := hx.out hL0
  have HG : Hid (w.heap[gs]? = some (.cells cur 20 (0, 0))) := hgs
  have HE : Hid (∀ i, i < L.length → ∃ v, cur[i]? = some v ∧ ElemIs v (L.getD i none)) := hel
  rw [hN] at hl hL hL0
  clear hN hx hgs hel
  go_enter Ybaf.func17, Ybaf.ntmps17
  go_wp2_with (first
    | (go_at_call 21; refine (list_arr R m _ N c p name _ hl).mono ?_; rintro e w' ⟨rfl, rfl⟩)
    | (at_make; refine wpList_make_own _ rfl (.const (.int .i64 0)) (.tmp 28) 36 rfl w.heap.size 9 i0 _ 1 Ybaf.underlying36 hi hz0 hz1 .i64 .i64 _ N rfl rfl (by omega) (by rw [hz2]; omega) (by unfold maxLen; omega) (Nat.le_refl _) ?_; intro w1 hown hgrow))
  have HI : Hid (LInv F base R n D L xs w w1 0 w.heap.size 0 N) := LInv.start h.out hown hgrow
  clear hown hgrow hl
  go_loopw [13, 32] (fun v i wr => ∃ (i' g k c' : Nat), i' ≤ N ∧ v = .slice (some ⟨g, 0, none⟩) k c' ∧ i = .int .i64 i' ∧ LInv F base R n D L xs w wr i' g k c') (fun _ i _ => N - (intOf i).toNat)
  case atStart => exact ⟨0, w.heap.size, 0, N, Nat.zero_le _, rfl, rfl, HI.out⟩
  case round =>
    clear HI
    obtain ⟨i', g, k, c', hi', rfl, rfl, hinv⟩ := hrel
    have HI : Hid (LInv F base R n D L xs w wr i' g k c') := hinv
    clear hinv
    by_cases hlt : i' < N
    · obtain ⟨x, hx, hxe⟩ := HE.out i' (by rw [HN.out]; exact hlt)
      obtain ⟨ys, hflt⟩ := HI.out.flt
      have HFl : Hid (Flt base R wr (n + jcL D (L.take i')) (xs ++ ys)) := hflt
      have hj : jcL D (L.take i') ≤ 300 := by have := jcL_le D (L.take i'); simp at this; omega
      have hk3 : k ≤ 300 := by have := outs_len (L.take i'); have := HI.out.len; simp at *; omega
      have hgr : wr.heap[gs]? = some (.cells cur 20 (0, 0)) := HI.out.kf.cells HG.out (h.out.not_box HG.out (by decide)) (by decide)
      have hcx : wr.cell? ⟨gs, i', none⟩ = some x := (cell_of_row wr _ i' _ _ _ hgr).trans hx
      have HFr : Hid (F.answers wr.tape) := show F.answers wr.tape by rw [HI.out.kf.tape]; exact hF.out
      have HRr : Hid (RolesIn wr Br mr D) := hr.out.kf h.out HI.out.kf
      have hF' := answers_open HFr.out
      have k1 := call14
      have k2 := guardF
      have k3 := fmtI
      have k4 := fmtIr
      have k5 := op9
      have k6 := op3
      clear hx hgr hflt
      cases hel : L.getD i' none with
      | some s =>
        rw [hel] at hxe
        obtain ⟨rfl, hs⟩ := hxe
        have HEl : Hid (L.getD i' none = some s) := hel
        have HS : Hid (s.size ≤ maxLen) := hs
        clear hel hs
        have k7 := as_t_9
        go_wp2_with (first
          | (go_at_call 11; refine (member2 p name _ h1 h2).mono ?_; rintro e w' ⟨rfl, rfl⟩))
        have hbx : Below wr.heap.size wr (wr.alloc (Obj.cells #[Value.iface 9 (Value.string (mpath p name)), Value.iface 3 (Value.int IntKind.i64 ↑i')] 20)).drew := ((Below.refl _ _).alloc (Nat.le_refl _) _).drew
        refine (role_any F base R (n + jcL D (L.take i')) Br mr D (xs ++ ys) s _ HS.out _ (by rw [hbx.tape]; exact HFr.out) (by omega) (HFl.out.below hbx) (HRr.out.below hbx)).mono ?_
        rintro e w3 ⟨rfl, ⟨ys2, hf3⟩, hk3⟩
        have HF3 : Hid (Flt base R w3 (n + jcL D (L.take i') + rc D s) (xs ++ (ys ++ ys2))) := show Flt base R w3 (n + jcL D (L.take i') + rc D s) (xs ++ (ys ++ ys2)) by rw [← List.append_assoc]; exact hf3
        have HK3 : Hid (KF base R wr w3) := (KF.of_below hbx).trans hk3
        have hr3 := row_kf HI.out.row HFl.out HK3.out (by decide) (by decide)
        have hs3 : w.heap.size ≤ w3.heap.size := Nat.le_trans HI.out.kf.size HK3.out.size
        clear hf3 hk3 hbx k1 k2 k3 k4 k5 k6 k7 hF'
        go_wp2_with (at_builtin; refine wpList_append_lies _ rfl (.tmp 51) (.tmp 57) 36 rfl w.heap.size 9 i0 _ 1 16 Ybaf.underlying36 hi hz0 hz1 hz2 rfl (by omega) _ k _ rfl (hr3.alloc _) ⟨w3.heap.size, 0, none⟩ 1 1 [.string s] rfl rfl (World.news_of_block (cs := #[.string s]) (t := 9) (fr := (0, 0)) (heap_alloc_new w3 _)) (by simp [Value.oneCell']) (by omega) (by unfold maxLen; omega) (by omega) (by simp; omega) (w3.heap.size + 1) (by simp) ?_; intro g' cp w4 ho4 hg4 hat4 hlt4)
        go_roundw
        case rel => exact ⟨i' + 1, g', k + 1, cp, by omega, rfl, by go_num, HI.out.put (by rw [HN.out]; exact hlt) HEl.out h.out HF3.out HK3.out rfl hr3 ho4 hg4⟩
        case measure => simp [intOf]; omega
      | none =>
        rw [hel] at hxe
        obtain ⟨b, rfl⟩ := hxe
        have HEl : Hid (L.getD i' none = none) := hel
        clear hel
        have k7 := as_b_9
        go_wp2_with (first
          | (go_at_call 11; refine (member2 p name _ h1 h2).mono ?_; rintro e w' ⟨rfl, rfl⟩))
        have hbx : Below wr.heap.size wr (wr.alloc (Obj.cells #[Value.iface 9 (Value.string (mpath p name)), Value.iface 3 (Value.int IntKind.i64 ↑i')] 20)).drew := ((Below.refl _ _).alloc (Nat.le_refl _) _).drew
        refine (kind_str _ _).mono ?_
        rintro e w' ⟨⟨s, rfl⟩, rfl⟩
        clear k1 k2 k3 k4 k5 k6 k7 hF'
        go_wp2_with fail
        refine (wrong' F base R (n + jcL D (L.take i')) _ (xs ++ ys) _ _ _ (by rw [hbx.tape]; exact HFr.out) (by omega) (HFl.out.below hbx) (.inl ⟨b, rfl⟩)).mono ?_
        rintro e w3 ⟨q, rfl, hf3, hk3⟩
        obtain ⟨zs, hf4⟩ : ∃ zs, Flt base R w3 (n + jcL D (L.take i') + 1) (xs ++ zs) := ⟨_, by rw [List.append_assoc] at hf3; exact hf3⟩
        have HF3 : Hid (Flt base R w3 (n + jcL D (L.take i') + 1) (xs ++ zs)) := hf4
        have HK3 : Hid (KF base R wr w3) := (KF.of_below hbx).trans hk3
        have hr3 := row_kf HI.out.row HFl.out HK3.out (by decide) (by decide)
        clear hf3 hf4 hk3 hbx
        go_wp2_with fail
        go_roundw
        case rel => exact ⟨i' + 1, g, k, c', by omega, rfl, by go_num, HI.out.miss (by rw [HN.out]; exact hlt) HEl.out HF3.out HK3.out hr3⟩
        case measure => simp [intOf]; omega
    · obtain rfl : i' = N := by omega
      go_wp2_with fail
      go_ret
      exact ⟨_, rfl, LInv.out (by rw [HN.out]; exact HI.out) (by rw [HN.out]; exact hL0)⟩

set_option maxHeartbeats 1000000 in
set_option maxRecDepth 100000 in
theorem readList_none (R m Br : Nat) (a : Option Addr) (c : Nat) (p name : ByteArray) (w : World)
    (hl : (Instr.lookup 26 (.map (some m)) (.string name) true).run Ybaf.prog w = .ok (.tuple #[.iface 27 (.slice a 0 c), .bool true]) w) :
    Calls Ybaf.prog 17 #[.pointer (some ⟨R, 0, none⟩), .map (some m), .string p, .string name, .func (.func 13) #[] #[.pointer (some ⟨Br, 0, none⟩)]] w fun e w' => e = .returned (.slice none 0 0) ∧ w = w' := by
  go_enter Ybaf.func17, Ybaf.ntmps17
  go_wp2_with (go_at_call 21; refine (list_arr R m _ 0 c p name _ hl).mono ?_; rintro e w' ⟨rfl, rfl⟩)
  go_ret
  exact ⟨rfl, rfl⟩

set_option maxHeartbeats 1000000 in
set_option maxRecDepth 100000 in
theorem readList_str (F : Interp) (base R n m Br : Nat) (t : ByteArray) (xs : List Value) (p name : ByteArray) (w : World) (hF : Hid (F.answers w.tape)) (hn : n ≤ 50000000) (h : Hid (Flt base R w n xs))
    (h1 : p.size ≤ 1000000000000000) (h2 : name.size ≤ 1000000000000000)
    (hl : (Instr.lookup 26 (.map (some m)) (.string name) true).run Ybaf.prog w = .ok (.tuple #[.iface 9 (.string t), .bool true]) w) :
    Calls Ybaf.prog 17 #[.pointer (some ⟨R, 0, none⟩), .map (some m), .string p, .string name, .func (.func 13) #[] #[.pointer (some ⟨Br, 0, none⟩)]] w fun e w' => e = .returned (.slice none 0 0) ∧ (∃ ys, Flt base R w' (n + 1) (xs ++ ys)) ∧ KF base R w w' := by
  go_enter Ybaf.func17, Ybaf.ntmps17
  go_wp2_with (go_at_call 21; refine (list_str F base R n m t xs p name _ hF.out (by omega) h.out h1 h2 hl).mono ?_; rintro e w' ⟨rfl, hf2, hk2⟩; have HF2 : Hid (∃ ys, Flt base R w' (n + 1) (xs ++ ys)) := hf2; have HK2 : Hid (KF base R w w') := hk2; clear hf2 hk2)
  go_ret
  exact ⟨rfl, HF2.out, HK2.out⟩

/-- Not too long. -/
def short : JV → Prop
  | .str _ => True
  | .arr L => L.length ≤ 300

theorem readList_any (F : Interp) (base R n m Br mr : Nat) (D : DataW Value) (j : JV) (x : Value) (xs : List Value) (p name : ByteArray) (w : World) (hF : F.answers w.tape) (hn : n ≤ 50000000) (h : Flt base R w n xs) (hr : RolesIn w Br mr D)
    (h1 : p.size ≤ 1000000000000000) (h2 : name.size ≤ 1000000000000000) (hj : short j) (hx : Lies w x j)
    (hl : (Instr.lookup 26 (.map (some m)) (.string name) true).run Ybaf.prog w = .ok (.tuple #[x, .bool true]) w) :
    Calls Ybaf.prog 17 #[.pointer (some ⟨R, 0, none⟩), .map (some m), .string p, .string name, .func (.func 13) #[] #[.pointer (some ⟨Br, 0, none⟩)]] w fun e w' => ∃ v, e = .returned v ∧ Out w' v j ∧ (∃ ys, Flt base R w' (n + jc D j) (xs ++ ys)) ∧ KF base R w w' := by
  cases j with
  | str s =>
    have hx' : x = .iface 9 (.string s) := hx
    subst hx'
    refine (readList_str F base R n m Br s xs p name w hF hn h h1 h2 hl).mono ?_
    rintro e w' ⟨rfl, hf, hk⟩
    exact ⟨_, rfl, ⟨fun _ => rfl, fun hn => absurd trivial hn⟩, hf, hk⟩
  | arr L =>
    obtain ⟨a, c, rfl, hL⟩ := hx
    by_cases h0 : 0 < L.length
    · exact readList_arr F base R n m Br mr D L a c xs p name w hF hn h hr h1 h2 h0 hj hL hl
    · obtain rfl : L = [] := List.eq_nil_of_length_eq_zero (by omega)
      refine (readList_none R m Br a c p name w hl).mono ?_
      rintro e w' ⟨rfl, rfl⟩
      exact ⟨_, rfl, ⟨fun _ => rfl, fun hn => absurd rfl hn⟩, ⟨[], by simpa [jc, jcL] using h⟩, KF.refl _ _ _⟩
end Go.Proofs.YbulkbmyaFmt.lawS3185BReads
