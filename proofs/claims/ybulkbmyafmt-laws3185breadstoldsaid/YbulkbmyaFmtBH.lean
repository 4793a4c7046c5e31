/- tiergate.readAssign, whole; zzs3185bhas; slices.Equal. -/
import Derived.Test.YbulkbmyaFmtBG
import Derived.Laws.EntriesVeiled
namespace Go.Proofs.YbulkbmyaFmt.lawS3185BReads
open Go.RowKit Go.Maps Go.Extern.Stop Go.Stop Go.Extern
open Go.Proofs.YbulkbmyaFmt.lawS3185AReads (mpath nil_of_isEmpty call14 guardF shape9 op9 Odd anyElem law9 key key_inj key_of isKey as_t_9 as_b_9)
set_option linter.unusedVariables false

/-- readAssign's two boxes. -/
abbrev boxed2 (w : World) (mr : Nat) : World := (w.alloc (.cells #[.map (some mr)] 41)).alloc (.cells #[.func (.func 13) #[] #[.pointer (some ⟨w.heap.size, 0, none⟩)]] 58)
theorem boxed2_below (w : World) (mr : Nat) : Below w.heap.size w (boxed2 w mr) := ((Below.refl _ _).alloc (Nat.le_refl _) _).alloc (by simp) _
theorem boxed2_clo (w : World) (mr : Nat) : Clo (boxed2 w mr) (w.heap.size + 1) w.heap.size := by
  have := World.alloc_heap_new (w.alloc (.cells #[.map (some mr)] 41)) (.cells #[.func (.func 13) #[] #[.pointer (some ⟨w.heap.size, 0, none⟩)]] 58)
  rw [World.size_alloc] at this
  exact this
theorem boxed2_roles {w : World} {mr : Nat} {D : DataW Value} (hown : w.ownsMap Ybaf.prog 9 anyElem mr 300 D) (hat : ∀ s z, Maps.has D (key s) = true → D.atKey (key s) z = .held Z44) : RolesIn (boxed2 w mr) w.heap.size mr D :=
  ⟨(Below.heap_alloc _ _ _ (by simp)).trans (World.alloc_heap_new w _), owns_map_block hown ((boxed2_below w mr).block _ hown.lt), hat⟩

set_option maxHeartbeats 400000 in
set_option maxRecDepth 100000 in
theorem ra_miss (R m mr nr : Nat) (DR : DataW Value) (p : ByteArray) (w : World) (h1 : p.size ≤ 500000000000000) (hR : Hid (w.ownsMap Ybaf.prog 9 anyElem m nr DR)) (hh : Hid (Maps.has DR (key ASG) = false)) :
    Calls Ybaf.prog 8 #[.pointer (some ⟨R, 0, none⟩), .map (some m), .string p, .map (some mr)] w fun e w' => e = .returned (.map none) ∧ Below w.heap.size w w' := by
  go_enter Ybaf.func8, Ybaf.ntmps8
  go_wp2_with (go_at_call 15; refine (rm_miss R m (w.heap.size + 1) p (boxed2 w mr) h1 (any_miss (owns_map_block hR.out ((boxed2_below w mr).block _ hR.out.lt)) asg_size hh.out)).mono ?_; rintro e w' ⟨rfl, rfl⟩)
  go_ret
  exact ⟨rfl, boxed2_below w mr⟩

set_option maxHeartbeats 400000 in
set_option maxRecDepth 100000 in
theorem ra_none (R m mo nn mr nr : Nat) (DR DM : DataW Value) (p : ByteArray) (w : World) (h1 : p.size ≤ 500000000000000) (hR : Hid (w.ownsMap Ybaf.prog 9 anyElem m nr DR)) (hh : Hid (Maps.has DR (key ASG) = true)) (hat : Hid (∀ z, DR.atKey (key ASG) z = .held (.iface 26 (.map (some mo)))))
    (hM : Hid (w.ownsMap Ybaf.prog 9 anyElem mo nn DM)) (h0 : Maps.size DM = 0) :
    Calls Ybaf.prog 8 #[.pointer (some ⟨R, 0, none⟩), .map (some m), .string p, .map (some mr)] w fun e w' => e = .returned (.map none) ∧ Below w.heap.size w w' := by
  go_enter Ybaf.func8, Ybaf.ntmps8
  go_wp2_with (go_at_call 15; refine (rm_none R m mo nn (w.heap.size + 1) DM p (boxed2 w mr) h1 (owns_map_block hM.out ((boxed2_below w mr).block _ hM.out.lt)) h0 (any_look (owns_map_block hR.out ((boxed2_below w mr).block _ hR.out.lt)) asg_size hh.out hat.out)).mono ?_; rintro e w' ⟨rfl, rfl⟩)
  go_ret
  exact ⟨rfl, boxed2_below w mr⟩

set_option maxHeartbeats 400000 in
set_option maxRecDepth 100000 in
theorem ra_str (F : Interp) (base R n m mr nr : Nat) (DR : DataW Value) (t : ByteArray) (xs : List Value) (p : ByteArray) (w : World) (hF : Hid (F.answers w.tape)) (hn : n ≤ 1000000) (h : Hid (Flt base R w n xs)) (h1 : p.size ≤ 500000000000000) (hR : Hid (w.ownsMap Ybaf.prog 9 anyElem m nr DR)) (hh : Hid (Maps.has DR (key ASG) = true)) (hat : Hid (∀ z, DR.atKey (key ASG) z = .held (.iface 9 (.string t)))) :
    Calls Ybaf.prog 8 #[.pointer (some ⟨R, 0, none⟩), .map (some m), .string p, .map (some mr)] w fun e w' => e = .returned (.map none) ∧ (∃ q, Flt base R w' (n + 1) (xs ++ [.string (mpath p ASG), .string q])) ∧ KF base R w w' := by
  go_enter Ybaf.func8, Ybaf.ntmps8
  go_wp2_with (go_at_call 15; refine (rm_str F base R n m (w.heap.size + 1) t xs p (boxed2 w mr) (show F.answers (boxed2 w mr).tape by rw [(boxed2_below w mr).tape]; exact hF.out) hn (h.out.below (boxed2_below w mr)) h1 (any_look (owns_map_block hR.out ((boxed2_below w mr).block _ hR.out.lt)) asg_size hh.out hat.out)).mono ?_; rintro e w' ⟨rfl, hf2, hk2⟩; have HF2 : Hid (∃ q, Flt base R w' (n + 1) (xs ++ [.string (mpath p ASG), .string q])) := hf2; have HK2 : Hid (KF base R (boxed2 w mr) w') := hk2; clear hf2 hk2)
  go_ret
  exact ⟨rfl, HF2.out, (KF.of_below (boxed2_below w mr)).trans HK2.out⟩

set_option maxHeartbeats 400000 in
set_option maxRecDepth 100000 in
theorem ra_obj (F : Interp) (base R n m mo nn mr nr : Nat) (D DM DR : DataW Value) (J : ByteArray → JV) (xs : List Value) (p : ByteArray) (w : World) (hF : Hid (F.answers w.tape)) (hn : n ≤ 1000000) (h : Hid (Flt base R w n xs)) (hr : Hid (w.ownsMap Ybaf.prog 9 anyElem mr 300 D ∧ ∀ s z, Maps.has D (key s) = true → D.atKey (key s) z = .held Z44))
    (h1 : p.size ≤ 500000000000000) (hM : Hid (w.ownsMap Ybaf.prog 9 anyElem mo nn DM)) (hnn : nn ≤ 300) (h0 : 0 < Maps.size DM) (hnd : Hid ((strKeys DM).Nodup))
    (hJ : Hid (∀ s : ByteArray, s.data.toList ∈ strKeys DM → short (J s) ∧ s.size ≤ 1000000000000000 ∧ Maps.has DM (key s) = true ∧ ∃ x, (∀ z, DM.atKey (key s) z = .held x) ∧ Lies w x (J s)))
    (hR : Hid (w.ownsMap Ybaf.prog 9 anyElem m nr DR)) (hh : Hid (Maps.has DR (key ASG) = true)) (hat : Hid (∀ z, DR.atKey (key ASG) z = .held (.iface 26 (.map (some mo))))) :
    Calls Ybaf.prog 8 #[.pointer (some ⟨R, 0, none⟩), .map (some m), .string p, .map (some mr)] w fun e w' => ∃ m' D', e = .returned (.map (some m')) ∧ MapOut w' J DM m' D' ∧ (∃ ys, Flt base R w' (n + tot D J (strKeys DM)) (xs ++ ys)) ∧ KF base R w w' := by
  have HJ : Hid (∀ s : ByteArray, s.data.toList ∈ strKeys DM → short (J s) ∧ s.size ≤ 1000000000000000 ∧ Maps.has DM (key s) = true ∧ ∃ x, (∀ z, DM.atKey (key s) z = .held x) ∧ Lies (boxed2 w mr) x (J s)) := fun s hs => by
    obtain ⟨a1, a2, a3, x, a4, a5⟩ := hJ.out s hs
    exact ⟨a1, a2, a3, x, a4, a5.below (boxed2_below w mr)⟩
  go_enter Ybaf.func8, Ybaf.ntmps8
  go_wp2_with (go_at_call 15; refine (rm_obj F base R n m mo nn (w.heap.size + 1) w.heap.size mr D DM J xs p (boxed2 w mr) (show F.answers (boxed2 w mr).tape by rw [(boxed2_below w mr).tape]; exact hF.out) hn (h.out.below (boxed2_below w mr)) (boxed2_roles hr.out.1 hr.out.2) (boxed2_clo w mr) h1 (owns_map_block hM.out ((boxed2_below w mr).block _ hM.out.lt)) hnn h0 hnd HJ (any_look (owns_map_block hR.out ((boxed2_below w mr).block _ hR.out.lt)) asg_size hh.out hat.out)).mono ?_; rintro e w' ⟨m', D', rfl, hO, hf, hk⟩; have HO : Hid (MapOut w' J DM m' D') := hO; have HFl : Hid (∃ ys, Flt base R w' (n + tot D J (strKeys DM)) (xs ++ ys)) := hf; have HK : Hid (KF base R (boxed2 w mr) w') := hk; clear hO hf hk)
  go_ret
  exact ⟨_, _, rfl, HO.out, HFl.out, (KF.of_below (boxed2_below w mr)).trans HK.out⟩
end Go.Proofs.YbulkbmyaFmt.lawS3185BReads
