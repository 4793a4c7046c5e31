/- tiergate.mapMembers[[]string]. -/
import Derived.Test.YbulkbmyaFmtBE
import Derived.Test.YbulkbmyaFmtIter
import Derived.Sort.KeysCollected
namespace Go.Proofs.YbulkbmyaFmt.lawS3185BReads
open Go.RowKit Go.Maps Go.Extern.Stop Go.Stop Go.Extern
open Go.Proofs.YbulkbmyaFmt.lawS3185AReads (mpath nil_of_isEmpty call14 guardF shape9 op9 Odd anyElem law9 key key_inj key_of isKey as_t_9 as_b_9)
set_option linter.unusedVariables false

/-- The faults that a member of this name brings. -/
def kc (D : DataW Value) (J : ByteArray → JV) (s : ByteArray) : Nat := rc D s + jc D (J s)
def tot (D : DataW Value) (J : ByteArray → JV) (l : List (List UInt8)) : Nat := (l.map fun b => kc D J ⟨b.toArray⟩).sum

theorem jc_le {D : DataW Value} {j : JV} (h : short j) : jc D j ≤ 300 := by
  cases j with
  | str s => simp [jc]
  | arr L => have := jcL_le D L; have h' : L.length ≤ 300 := h; simp only [jc]; omega
theorem tot_le {D : DataW Value} {J : ByteArray → JV} {l : List (List UInt8)} (h : ∀ b ∈ l, short (J ⟨b.toArray⟩)) : tot D J l ≤ l.length * 301 := by
  induction l with
  | nil => simp [tot]
  | cons b l ih =>
    have h1 := jc_le (D := D) (h b (by simp))
    have h2 := rc_le D ⟨b.toArray⟩
    have h3 := ih fun b hb => h b (by simp [hb])
    simp only [tot, List.map_cons, List.sum_cons, List.length_cons, kc] at *
    omega
theorem tot_perm {D : DataW Value} {J : ByteArray → JV} {l l' : List (List UInt8)} (h : l.Perm l') : tot D J l = tot D J l' := (h.map _).sum_nat
theorem tot_snoc (D : DataW Value) (J : ByteArray → JV) (l : List (List UInt8)) (b : List UInt8) : tot D J (l ++ [b]) = tot D J l + kc D J ⟨b.toArray⟩ := by simp [tot]

theorem makeM (n : Int) (w : World) : (Instr.makeMap 49 (some (.int .i64 n))).run Ybaf.prog w = .ok (.map (some w.heap.size)) (w.alloc (.map #[] 0)) := by kernel_rfl

/-- Between two rounds: the first i keys of ts read. -/
structure MInv (base R n : Nat) (D : DataW Value) (J : ByteArray → JV) (ts : List (List UInt8)) (xs : List Value) (w wr : World) (i : Nat) (DD : DataW Value) (v : Value) : Prop where
  flt : ∃ ys, Flt base R wr (n + tot D J (ts.take i)) (xs ++ ys)
  kf : KF base R w wr
  own : wr.ownsMap Ybaf.prog 9 anyElem w.heap.size i DD
  has : ∀ s, Maps.has DD (key s) = true ↔ s.data.toList ∈ ts.take i
  at_ : ∀ s : ByteArray, s.data.toList ∈ ts.take i → ∃ u, (∀ z, DD.atKey (key s) z = .held u) ∧ Out wr u (J s)
  row : wr.ownsRow w.heap.size 9 1 v ts.length (ts.map encStr)

section
variable {base R n : Nat} {D DD : DataW Value} {J : ByteArray → JV} {ts : List (List UInt8)} {xs : List Value} {w wr w3 w5 : World} {i : Nat} {v : Value}

theorem MInv.step {s : ByteArray} {u : Value} {ys : List Value} (h : MInv base R n D J ts xs w wr i DD v) (hi : i < ts.length) (hs : ts[i] = s.data.toList) (hl : ∃ ys', Flt base R wr (n + tot D J (ts.take i)) (xs ++ ys'))
    (hf : Flt base R w3 (n + tot D J (ts.take i) + kc D J s) (xs ++ ys)) (hk : KF base R wr w3) (ho : Out w3 u (J s)) (hr3 : w3.ownsRow w.heap.size 9 1 v ts.length (ts.map encStr)) (hm3 : w3.ownsMap Ybaf.prog 9 anyElem w.heap.size i DD)
    (hm5 : w5.ownsMap Ybaf.prog 9 anyElem w.heap.size (i + 1) (DD.put (key s) (.held u))) (hg : w3.grownBy w5 (some w.heap.size)) : MInv base R n D J ts xs w w5 (i + 1) (DD.put (key s) (.held u)) v := by
  obtain ⟨es, clock, hmap⟩ := owns_isMap hm3
  obtain ⟨_, hflt⟩ := hl
  have hts : ts.take (i + 1) = ts.take i ++ [s.data.toList] := by rw [List.take_add_one, List.getElem?_eq_getElem hi, hs]; rfl
  have hcells : ∀ (g : Nat) (cur : Array Value), w3.heap[g]? = some (.cells cur 9 (0, 0)) → w5.heap[g]? = some (.cells cur 9 (0, 0)) := fun g cur hg' => by
    rw [hg.block g (Array.getElem?_eq_some_iff.1 hg').1 ?_]
    · exact hg'
    · intro e
      simp at e
      subst e
      rw [hmap] at hg'
      cases hg'
  refine ⟨⟨ys, ?_⟩, (h.kf.trans hk).grown hg (fun r e => by cases e; exact Nat.le_refl _), hm5, ?_, ?_, hr3.kept hg ?_⟩
  · rw [hts, tot_snoc, ← Nat.add_assoc]
    refine Flt.grown hf hg (hf.not_map hmap rfl) fun cs fr e => ?_
    rw [hmap] at e
    cases e
  · intro z
    rw [hts, List.mem_append, List.mem_singleton, ← h.has z]
    by_cases e : s = z
    · subst e
      simp [has_put_same hm3.isMap (isKey s)]
    · rw [has_put_other (fun h => e (key_inj h).symm)]
      have : z.data.toList ≠ s.data.toList := fun e' => e (ByteArray.ext (Array.toList_inj.1 e'.symm))
      simp [this]
  · intro z hz
    by_cases e : s = z
    · subst e
      exact ⟨u, fun z => atKey_put_same hm3.isMap (isKey s) _ _, ho.same hcells⟩
    · rw [hts, List.mem_append, List.mem_singleton] at hz
      have : z.data.toList ≠ s.data.toList := fun e' => e (ByteArray.ext (Array.toList_inj.1 e'.symm))
      obtain ⟨u', h1, h2⟩ := h.at_ z (hz.resolve_right this)
      refine ⟨u', fun z' => ?_, (h2.kf hflt hk).same hcells⟩
      rw [atKey_put_other (fun h => e (key_inj h).symm)]
      exact h1 z'
  · rcases hr3.2 with ⟨rfl, _⟩ | ⟨g, cap, cur, rfl, _, hgb, _⟩
    · exact .inl rfl
    · refine .inr fun e => ?_
      simp [Value.ownBlock] at e
      subst e
      rw [hmap] at hgb
      cases hgb
end

/-- What has been read of a whole object. -/
structure MapOut (w : World) (J : ByteArray → JV) (DM : DataW Value) (m' : Nat) (D' : DataW Value) : Prop where
  own : w.ownsMap Ybaf.prog 9 anyElem m' 300 D'
  has : ∀ s, Maps.has D' (key s) = true ↔ s.data.toList ∈ strKeys DM
  at_ : ∀ s : ByteArray, s.data.toList ∈ strKeys DM → ∃ u, (∀ z, D'.atKey (key s) z = .held u) ∧ Out w u (J s)
  size : Maps.size D' = (strKeys DM).length

theorem size_strKeys {D : DataW Value} (h : IsMap D) : (strKeys D).length = Maps.size D := by
  cases D <;> simp_all [IsMap, strKeys, Maps.size]

set_option maxHeartbeats 400000 in
set_option maxRecDepth 100000 in
theorem members_none (R m nn Bf : Nat) (DM : DataW Value) (p : ByteArray) (w : World) (hM : w.ownsMap Ybaf.prog 9 anyElem m nn DM) (h0 : Maps.size DM = 0) :
    Calls Ybaf.prog 20 #[.pointer (some ⟨R, 0, none⟩), .map (some m), .string p, .func (.func 16) #[] #[.pointer (some ⟨Bf, 0, none⟩)]] w fun e w' => e = .returned (.map none) ∧ w = w' := by
  go_enter Ybaf.func20, Ybaf.ntmps20
  go_wp2_with (at_len; refine wpList_len_own _ rfl _ 26 rfl 9 20 Ybaf.underlying26 _ m nn DM rfl hM ?_; rw [h0])
  go_ret
  exact ⟨rfl, rfl⟩
set_option maxHeartbeats 400000 in
set_option maxRecDepth 100000 in
theorem members_nil (R Bf : Nat) (p : ByteArray) (w : World) :
    Calls Ybaf.prog 20 #[.pointer (some ⟨R, 0, none⟩), .map none, .string p, .func (.func 16) #[] #[.pointer (some ⟨Bf, 0, none⟩)]] w fun e w' => e = .returned (.map none) ∧ w = w' := by
  have hl := fun ty w => Maps.len_nil (P := Ybaf.prog) (w := w) (ht := Ybaf.underlying26) ty
  go_enter Ybaf.func20, Ybaf.ntmps20
  go_wp2_with fail
  go_ret
  exact ⟨rfl, rfl⟩

theorem MInv.start {base R n : Nat} {D : DataW Value} {J : ByteArray → JV} {ts : List (List UInt8)} {xs : List Value} {w w2 : World} {v : Value} {b0 : Nat} (h : Flt base R w n xs) (hb : Below (w.heap.size + 1) (w.alloc (.map #[] 0)) w2)
    (hrow : w2.ownsRow b0 9 1 v ts.length (ts.map encStr)) (hb0 : w.heap.size ≤ b0) : MInv base R n D J ts xs w w2 0 (.map []) v := by
  have hbw : Below w.heap.size w w2 := ((Below.refl _ _).alloc (Nat.le_refl _) _).trans (hb.mono (by omega))
  have hmade := World.ownsMap_made (H := Value) w Ybaf.prog 9 anyElem
  refine ⟨⟨[], by simpa [tot] using h.below hbw⟩, KF.of_below hbw, owns_map_block hmade (hb.block _ (by omega)), fun s => by simp [Maps.has], fun s hs => by simp at hs, ?_⟩
  refine ⟨hrow.1, ?_⟩
  rcases hrow.2 with h | ⟨g, cap, cur, e, hg, r⟩
  · exact .inl h
  · exact .inr ⟨g, cap, cur, e, by omega, r⟩

theorem MInv.out {base R n : Nat} {D DD : DataW Value} {J : ByteArray → JV} {ts : List (List UInt8)} {xs : List Value} {w wr : World} {v : Value} {DM : DataW Value} (h : MInv base R n D J ts xs w wr ts.length DD v) (hp : ts.Perm (strKeys DM)) (hnd : (strKeys DM).Nodup) (hl : ts.length ≤ 300) :
    MapOut wr J DM w.heap.size DD ∧ (∃ ys, Flt base R wr (n + tot D J (strKeys DM)) (xs ++ ys)) ∧ KF base R w wr := by
  obtain ⟨h1, h2, h3, h4, h5, h6⟩ := h
  rw [List.take_length] at h1
  simp only [List.take_length] at h4 h5
  have hcol : Collected DD (fun _ => false) ts := ⟨hp.nodup_iff.2 hnd, fun x => by
    have := h4 ⟨x.toArray⟩
    simp only [key] at this
    simp [this]⟩
  have hp' := hcol.perm h3 law9 Ybaf.underlying9 (fun _ => rfl)
  refine ⟨⟨h3.mono hl, fun s => by rw [h4, hp.mem_iff], fun s hs => h5 s (hp.mem_iff.2 hs), ?_⟩, by rw [← tot_perm hp]; exact h1, h2⟩
  rw [← size_strKeys h3.isMap, ← hp'.length_eq, hp.length_eq]

/-- The keys, sorted. -/
theorem sorted_any (m nn N : Nat) (DM : DataW Value) (w : World) (hown : w.ownsMap Ybaf.prog 9 anyElem m nn DM) (hN : Maps.size DM = N) (h0 : 0 < N) (hN3 : N ≤ 300) (B : Nat) (hB : w.heap.size = B) :
    Calls Ybaf.prog 23 #[.func (.func 27) #[] #[.pointer (some ⟨B, 0, none⟩)]] (w.alloc (.cells #[.map (some m)] 26)) fun e w2 => ∃ (g cap : Nat) (ts : List (List UInt8)), e = .returned (.slice (some ⟨g, 0, none⟩) N cap) ∧ ts.Perm (strKeys DM) ∧ ts.length = N ∧
      w2.ownsRow (B + 1) 9 1 (.slice (some ⟨g, 0, none⟩) N cap) N (ts.map encStr) ∧ Below (B + 1) (w.alloc (.cells #[.map (some m)] 26)) w2 := by
  subst hB
  refine (callsIn_wide.1 (Ybaf.slices_Sorted_keys_23_24 m nn DM anyElem w hown (by rw [hN]; unfold maxLen; omega) (by rw [hN]; omega))).mono ?_
  rintro e w2 ⟨v, ss, rfl, hS, hrow, hnil, hb2⟩
  have hlen : ss.length = N := by rw [hS.length_eq, size_strKeys hown.isMap, hN]
  have hp : (ss.mergeSort (fun x y => decide (x ≤ y))).Perm ss := List.mergeSort_perm _ _
  rw [World.size_alloc] at hrow hb2
  rw [hlen] at hrow
  rcases hrow.2 with ⟨_, h⟩ | ⟨g, cap, cur, rfl, _⟩
  · omega
  · exact ⟨g, cap, _, rfl, hp.trans hS, by rw [hp.length_eq, hlen], hrow, hb2⟩

set_option maxHeartbeats 1000000 in
set_option maxRecDepth 100000 in
theorem members_any (F : Interp) (base R n m nn Bf Br mr : Nat) (D DM : DataW Value) (J : ByteArray → JV) (xs : List Value) (p : ByteArray) (w : World) (hF : Hid (F.answers w.tape)) (hn : n ≤ 1000000) (h : Hid (Flt base R w n xs)) (hr : Hid (RolesIn w Br mr D)) (hc : Hid (Clo w Bf Br))
    (h1 : p.size ≤ 1000000000000000) (hM : Hid (w.ownsMap Ybaf.prog 9 anyElem m nn DM)) (hnn : nn ≤ 300) (h0 : 0 < Maps.size DM) (hnd : Hid ((strKeys DM).Nodup))
    (hJ : Hid (∀ s : ByteArray, s.data.toList ∈ strKeys DM → short (J s) ∧ s.size ≤ 1000000000000000 ∧ Maps.has DM (key s) = true ∧ ∃ x, (∀ z, DM.atKey (key s) z = .held x) ∧ Lies w x (J s))) :
    Calls Ybaf.prog 20 #[.pointer (some ⟨R, 0, none⟩), .map (some m), .string p, .func (.func 16) #[] #[.pointer (some ⟨Bf, 0, none⟩)]] w fun e w' => ∃ m' D', e = .returned (.map (some m')) ∧ MapOut w' J DM m' D' ∧ (∃ ys, Flt base R w' (n + tot D J (strKeys DM)) (xs ++ ys)) ∧ KF base R w w' := by
  have hsz := hM.out.size_le
  obtain ⟨N, hN⟩ : ∃ x, Maps.size DM = x := ⟨_, rfl⟩
  have HN : Hid (Maps.size DM = N) := hN
  have hown0 := hM.out
  have hown1 : (w.alloc (.map #[] 0)).ownsMap Ybaf.prog 9 anyElem m nn DM := owns_map_block hown0 (Below.heap_alloc _ _ _ hown0.lt)
  have hmm := makeM
  rw [hN] at h0 hsz
  go_enter Ybaf.func20, Ybaf.ntmps20
  go_wp2_with (first
    | (at_len; refine wpList_len_own _ rfl _ 26 rfl 9 20 Ybaf.underlying26 _ m nn DM rfl hown0 ?_; rw [HN.out])
    | (go_at_call 24; refine (callsIn_wide.1 (Ybaf.maps_Keys_24 (some m) _)).mono ?_; rintro e w' ⟨rfl, rfl⟩)
    | (go_at_call 23; refine (sorted_any m nn N DM (w.alloc (.map #[] 0)) hown1 HN.out h0 (by omega) (w.heap.size + 1) (by simp)).mono ?_; rintro e w2 ⟨g, cap, ts, rfl, hS, hlts, hrow, hb2⟩))
  have HI : Hid (MInv base R n D J ts xs w w2 0 (.map []) (.slice (some ⟨g, 0, none⟩) N cap)) := MInv.start h.out ((((Below.refl _ _).alloc (by simp) _).trans (hb2.mono (by omega)))) (by rw [hlts]; exact hrow) (by omega)
  have HS : Hid (ts.Perm (strKeys DM)) := hS
  have HT : Hid (ts.length = N) := hlts
  clear hS hlts hrow hb2 hown0 hown1 hmm hN
  go_loopw [22] (fun v wr => ∃ (i : Nat) (DD : DataW Value), i ≤ N ∧ v = .int .i64 i ∧ MInv base R n D J ts xs w wr i DD (.slice (some ⟨g, 0, none⟩) N cap)) (fun v _ => N - (intOf v).toNat)
  case atStart => exact ⟨0, _, Nat.zero_le _, rfl, HI.out⟩
  case round =>
    clear HI
    obtain ⟨i, DD, hi, rfl, hinv⟩ := hrel
    have HI : Hid (MInv base R n D J ts xs w wr i DD (.slice (some ⟨g, 0, none⟩) N cap)) := hinv
    clear hinv
    by_cases hlt : i < N
    · have hlt' : i < ts.length := by rw [HT.out]; exact hlt
      obtain ⟨s, hs⟩ : ∃ s : ByteArray, ts[i] = s.data.toList := ⟨⟨ts[i].toArray⟩, by simp⟩
      have hin : s.data.toList ∈ strKeys DM := HS.out.mem_iff.1 (by rw [← hs]; exact List.getElem_mem _)
      obtain ⟨j1, j2, j3, x, j4, j5⟩ := hJ.out s hin
      obtain ⟨ys, hflt⟩ := HI.out.flt
      have hcx : wr.cell? ⟨g, i, none⟩ = some (.string s) := by
        have hrw := HI.out.row
        rw [HT.out] at hrw
        rw [hrw.cellAt i (by omega), List.getElem?_map, List.getElem?_eq_getElem hlt', hs]
        simp [encStr]
      have hgb : g < wr.heap.size := by have := block_lt_of_cell hcx; simpa using this
      have HFl : Hid (Flt base R wr (n + tot D J (ts.take i)) (xs ++ ys)) := hflt
      have htot : tot D J (ts.take i) ≤ 301 * 300 := by
        refine Nat.le_trans (tot_le fun b hb => ?_) ?_
        · have hb' : b ∈ strKeys DM := HS.out.mem_iff.1 (List.mem_of_mem_take hb)
          exact (hJ.out ⟨b.toArray⟩ (by simpa using hb')).1
        · rw [List.length_take]
          have := HT.out
          omega
      have HTs : Hid (ts[i]'hlt' = s.data.toList) := hs
      have HFr : Hid (F.answers wr.tape) := show F.answers wr.tape by rw [HI.out.kf.tape]; exact hF.out
      have hms : s.size ≤ maxLen := by unfold maxLen; omega
      clear hs hin hflt
      go_wp2_with (first
        | (go_at_call 16; refine (member_read F base R (n + tot D J (ts.take i)) m nn Bf Br mr D DM (J s) x (xs ++ ys) p s wr HFr (by omega) HFl (hr.out.kf h.out HI.out.kf) (hc.out.kf h.out HI.out.kf) h1 j2 j1 (j5.kf h.out HI.out.kf) (owns_kf hM.out h.out HI.out.kf) ⟨j3, j4⟩).mono ?_; rintro e w3 ⟨u, rfl, hO, ⟨ys3, hf3⟩, hk3⟩; have HO : Hid (Out w3 u (J s)) := hO; have HF3 : Hid (Flt base R w3 (n + tot D J (ts.take i) + kc D J s) (xs ++ (ys ++ ys3))) := (show Flt base R w3 (n + tot D J (ts.take i) + kc D J s) (xs ++ (ys ++ ys3)) by rw [← List.append_assoc]; exact hf3); have HK3 : Hid (KF base R wr w3) := hk3; have hm3 := owns_kf HI.out.own HFl.out hk3; clear hO hf3 hk3)
        | (at_mapUpdate; refine wpList_mapUpdate_own _ rfl _ _ _ 49 rfl 9 36 law9 Ybaf.underlying49 anyElem w.heap.size i DD rfl hm3 (by unfold maxLen; omega) _ _ _ rfl rfl (key_of s hms) _ [] rfl ?_; intro w5 hown5 hgrow5))
      go_roundw
      case rel => exact ⟨i + 1, _, by omega, by go_num, HI.out.step hlt' HTs.out ⟨_, HFl.out⟩ HF3.out HK3.out HO.out (row_kf HI.out.row HFl.out HK3.out (by decide) (by decide)) hm3 hown5 hgrow5⟩
      case measure => simp [intOf]; omega
    · obtain rfl : i = N := by omega
      go_wp2_with fail
      go_ret
      exact ⟨_, _, rfl, MInv.out (by rw [HT.out]; exact HI.out) HS.out hnd.out (by rw [HT.out]; omega)⟩
end Go.Proofs.YbulkbmyaFmt.lawS3185BReads
