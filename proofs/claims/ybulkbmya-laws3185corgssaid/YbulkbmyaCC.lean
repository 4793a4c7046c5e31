/- tiergate.zzs3185cbuild: the walk. -/
import Derived.Test.YbulkbmyaCB
namespace Go.Proofs.Ybulkbmya.laws
open Go.RowKit Go.Maps

theorem make41 (n : Int) (w : World) : (Instr.makeMap 41 (some (.int .i64 n))).run Yba.prog w = .ok (.map (some w.heap.size)) (w.alloc (.map #[] 0)) := by kernel_rfl
theorem info43 : (Yba.prog.info? 43).map (fun i => (i.zero, i.size, i.bytes)) = some (some (.agg #[.slice none 0 0, .slice none 0 0, .map none]), 3, 56) := by kernel_rfl

/-- The subject's field behind the append, to be stored into. -/
theorem step_cell {w wr wx w3 : World} {R : Lists} {k : Nat} {ms : List (Option Nat)} {va : Option Addr} {vc : Nat} {e : Obj} (h : Inv w wr R k ms va vc) (hx : Below wr.heap.size wr wx) (hg : (wx.alloc e).grownBy w3 (Value.slice va k vc).ownBlock) :
    w3.cell? ⟨w.heap.size + 1, 1, none⟩ = some (.slice va k vc) ∧ w3.frozen? ⟨w.heap.size + 1, 1, none⟩ = false := by
  have s0 := h.size
  have s1 := hx.size
  have ne : some (w.heap.size + 1) ≠ (Value.slice va k vc).ownBlock := fun e => by
    have := (row_is_cells h.own e.symm).1
    omega
  have hb : w3.heap[w.heap.size + 1]? = some (.cells (subj (.slice va k vc)) 29 (0, 0)) := by
    rw [hg.block _ (by simp; omega) ne, Below.heap_alloc _ _ _ (by omega), hx.block _ (by omega)]
    exact h.sub
  exact ⟨(cell_of_row w3 _ 1 _ _ _ hb).trans rfl, frozen_of_row w3 _ 1 _ _ hb⟩

theorem owns_below {w w' : World} {base e size n : Nat} {v : Value} {xs : List Value} (h : w.ownsRow base e size v n xs) (hb : Below w.heap.size w w') : w'.ownsRow base e size v n xs := by
  obtain ⟨h1, h2⟩ := h
  refine ⟨h1, ?_⟩
  rcases h2 with h2 | ⟨g, cap, cur, hv, hg, hh, r⟩
  · exact Or.inl h2
  · exact Or.inr ⟨g, cap, cur, hv, hg, by rw [hb.block g (lt_of_block hh)]; exact hh, r⟩

theorem four {w : World} {b : Nat} {v0 v1 v2 v3 : Value} {t : TypeId} (h : w.heap[b]? = some (.cells #[v0, v1, v2, v3] t (0, 0))) :
    w.cell? ⟨b, 0, none⟩ = some v0 ∧ w.cell? ⟨b, 1, none⟩ = some v1 ∧ w.cell? ⟨b, 2, none⟩ = some v2 ∧ w.cell? ⟨b, 3, none⟩ = some v3 ∧ w.frozen? ⟨b, 0, none⟩ = false ∧ w.frozen? ⟨b, 1, none⟩ = false ∧ w.frozen? ⟨b, 2, none⟩ = false ∧ w.frozen? ⟨b, 3, none⟩ = false :=
  ⟨(cell_of_row w b 0 _ _ _ h).trans rfl, (cell_of_row w b 1 _ _ _ h).trans rfl, (cell_of_row w b 2 _ _ _ h).trans rfl, (cell_of_row w b 3 _ _ _ h).trans rfl, frozen_of_row w b 0 _ _ h, frozen_of_row w b 1 _ _ h, frozen_of_row w b 2 _ _ h, frozen_of_row w b 3 _ _ h⟩

/-- What the call leaves. -/
structure Built (w w' : World) (R : Lists) (n : Nat) (ms : List (Option Nat)) (va : Option Addr) (vc : Nat) : Prop where
  own : w'.ownsRow (w.heap.size + 2) 43 3 (.slice va n vc) n (rcells ms)
  len : ms.length = n
  maps : ∀ j, j < n → RoleOk w' R j (ms.getD j none)
  below : Below w.heap.size w w'

theorem Built.set {w w' : World} {R : Lists} {n : Nat} {ms : List (Option Nat)} {va : Option Addr} {vc : Nat} (h : Built w w' R n ms va vc) {cs : Array Value} (hb : w'.heap[w.heap.size]? = some (.cells cs 29 (0, 0))) (i : Nat) (u : Value) :
    Built w (w'.setCell ⟨w.heap.size, i, none⟩ u) R n ms va vc ∧ ∃ cs', (w'.setCell ⟨w.heap.size, i, none⟩ u).heap[w.heap.size]? = some (.cells cs' 29 (0, 0)) := by
  refine ⟨⟨?_, h.len, ?_, h.below.setCell (p := ⟨w.heap.size, i, none⟩) (Nat.le_refl _) _⟩, _, heap_setCell_same _ _ _ _ _ _ hb⟩
  · refine ownsRow_setCell_other h.own ?_ u
    intro e
    have := (row_is_cells h.own e).1
    simp at this
    omega
  · intro j hj
    refine (h.maps j hj).kept fun m hm => ?_
    have hr := h.maps j hj
    rw [hm] at hr
    obtain ⟨es, clock, hm'⟩ := hr.isMap
    rw [Below.heap_setCell _ _ _ _ ?_]
    rintro rfl
    rw [hb] at hm'
    simp at hm'

theorem Inv.built {w wr : World} {R : Lists} {k : Nat} {ms : List (Option Nat)} {va : Option Addr} {vc : Nat} (h : Inv w wr R k ms va vc) (v0 v1 v2 v3 : Value) :
    Built w ((((wr.setCell ⟨w.heap.size, 0, none⟩ v0).setCell ⟨w.heap.size, 1, none⟩ v1).setCell ⟨w.heap.size, 2, none⟩ v2).setCell ⟨w.heap.size, 3, none⟩ v3) R k ms va vc := by
  have b0 : Built w wr R k ms va vc := ⟨h.own, h.len, h.maps, h.below⟩
  obtain ⟨b1, _, c1⟩ := b0.set h.res 0 v0
  obtain ⟨b2, _, c2⟩ := b1.set c1 1 v1
  obtain ⟨b3, _, c3⟩ := b2.set c2 2 v2
  exact (b3.set c3 3 v3).1

/-- The inner loop: behind the role's block and the new map's, the map alone turns. -/
structure Mid (wr wi : World) : Prop where
  grown : ((wr.alloc (.cells #[.slice none 0 0, .slice none 0 0, .map (some (wr.heap.size + 1))] 43)).alloc (.map #[] 0)).grownBy wi (some (wr.heap.size + 1))

theorem Mid.below {wr wi : World} (h : Mid wr wi) : Below wr.heap.size wr wi :=
  (((Below.refl _ _).alloc (Nat.le_refl _) _).alloc (by simp) _).grown h.grown (by simp; omega) (fun k hk => by simp at hk; omega)
theorem Mid.cells {wr wi : World} (h : Mid wr wi) : wi.cell? ⟨wr.heap.size, 0, none⟩ = some (.slice none 0 0) ∧ wi.cell? ⟨wr.heap.size, 1, none⟩ = some (.slice none 0 0) ∧ wi.cell? ⟨wr.heap.size, 2, none⟩ = some (.map (some (wr.heap.size + 1))) := by
  have hb : wi.heap[wr.heap.size]? = some (.cells #[.slice none 0 0, .slice none 0 0, .map (some (wr.heap.size + 1))] 43 (0, 0)) := by
    rw [h.grown.block _ (by simp; omega) (by simp), heap_alloc2_old]
  exact ⟨(cell_of_row wi _ 0 _ _ _ hb).trans rfl, (cell_of_row wi _ 1 _ _ _ hb).trans rfl, (cell_of_row wi _ 2 _ _ _ hb).trans rfl⟩
theorem Mid.step {wr wi w5 : World} (h : Mid wr wi) (hg : wi.grownBy w5 (some (wr.heap.size + 1))) : Mid wr w5 := ⟨h.grown.trans hg⟩
theorem mid_start (wr : World) : ((wr.alloc (.cells #[.slice none 0 0, .slice none 0 0, .map (some (wr.heap.size + 1))] 43)).alloc (.map #[] 0)).ownsMap Yba.prog 9 anyElem (wr.heap.size + 1) 0 (.map []) ∧ Mid wr ((wr.alloc (.cells #[.slice none 0 0, .slice none 0 0, .map (some (wr.heap.size + 1))] 43)).alloc (.map #[] 0)) := by
  have := World.ownsMap_made (wr.alloc (.cells #[.slice none 0 0, .slice none 0 0, .map (some (wr.heap.size + 1))] 43)) Yba.prog 9 anyElem
  simp only [World.size_alloc] at this
  exact ⟨this, ⟨World.grownBy.refl _ _⟩⟩

set_option maxHeartbeats 1000000 in
set_option maxRecDepth 100000 in
theorem build_any (R : Lists) (cap : Nat) (w : World) (h : Hid (R.In w)) (hbig : R.n ≤ 256) (hbigs : Hid (∀ j, j < R.n → R.L j ≤ 256)) :
    Calls Yba.prog 6 #[.slice R.a R.n cap] w fun e w' => ∃ va vc ms, e = .returned (.agg (subj (.slice va R.n vc))) ∧ Built w w' R R.n ms va vc := by
  obtain ⟨a, n, ka, L, kc, K⟩ := R
  simp only at *
  obtain ⟨i0, hi, hz0, hz1, hz2⟩ := info_parts info43
  have hmm := make41
  go_enter Yba.func6, Yba.ntmps6
  go_wp2_with fail
  go_loopw [11] (fun i wr => ∃ (k : Nat) (ms : List (Option Nat)) (va : Option Addr) (vc : Nat), k ≤ n ∧ i = .int .i64 k ∧ Inv w wr ⟨a, n, ka, L, kc, K⟩ k ms va vc) (fun i _ => n - (intOf i).toNat)
  case atStart => exact ⟨0, [], none, 0, Nat.zero_le _, rfl, Inv.start w _⟩
  case round =>
    rename World => w0
    obtain ⟨k, ms, va, vc, hk, rfl, hinv⟩ := hrel
    by_cases hlt : k < n
    · obtain ⟨b, o, ha, hb, hc⟩ := h.out.row k hlt
      have hLk := hbigs.out k hlt
      simp only at ha hc hLk
      subst ha
      have hkeys := fun h0 => h.out.keys (j := k) hlt h0
      have hsize := fun i hi => h.out.size k hlt i hi
      have hnil := h.out.nil k hlt
      simp only at hkeys hsize hnil
      obtain ⟨Lk, hLe⟩ : ∃ x, L k = x := ⟨_, rfl⟩
      obtain ⟨kk, hke⟩ : ∃ x, ka k = x := ⟨_, rfl⟩
      rw [hLe] at hc hLk hkeys hsize hnil
      rw [hke] at hc hkeys hnil
      have HLe : Hid (L k = Lk) := hLe
      clear hLe hke
      replace hc := (hinv.below.cell (p := ⟨b, o + k, none⟩) hb).trans hc
      have sub1 : w0.cell? ⟨w.heap.size + 1, 1, none⟩ = some (.slice va k vc) := (cell_of_row w0 _ 1 _ _ _ hinv.sub).trans rfl
      have fsub1 : w0.frozen? ⟨w.heap.size + 1, 1, none⟩ = false := frozen_of_row w0 _ 1 _ _ hinv.sub
      have hsz := hinv.size
      have hS1 : w.heap.size + 1 < w0.heap.size := by omega
      have HI : Hid (Inv w w0 ⟨some ⟨b, o, none⟩, n, ka, L, kc, K⟩ k ms va vc) := hinv
      clear hinv
      cases kk with
      | none =>
        have hL0 : Lk = 0 := hnil rfl
        subst hL0
        have hneq := fun wx => run_neq_slice_nil_any (P := Yba.prog) wx 26 9 none 0 (kc k) 0 0 Yba.underlying26
        clear hkeys hsize hnil
        go_wp2_with (at_builtin; refine wpList_append_lies _ rfl (.tmp 33) (.tmp 35) 25 rfl (w.heap.size + 2) 43 i0 _ 3 56 Yba.underlying25 hi hz0 hz1 hz2 rfl (by omega) _ k (rcells ms) rfl ((HI.out.own.alloc _).alloc _) ⟨w0.heap.size + 1, 0, none⟩ 1 1 (role none) rfl rfl (World.news_of_block (cs := #[.slice none 0 0, .slice none 0 0, .map none]) (t := 43) (fr := (0, 0)) (heap_alloc2_new w0 _ _)) (role_one _) (by omega) (by unfold maxLen; omega) (by omega) (by simp; omega) (w0.heap.size + 2) (by simp) ?_; intro g cp w3 hown3 hgrow3 hat hlt3; obtain ⟨c3, z3⟩ := step_cell HI.out ((Below.refl _ _).alloc (Nat.le_refl _) _) hgrow3)
        go_roundw
        case rel => exact ⟨k + 1, ms ++ [none], some ⟨g, 0, none⟩, cp, by omega, by go_num, HI.out.step ((Below.refl _ _).alloc (Nat.le_refl _) _) HLe.out hown3 hgrow3⟩
        case measure => simp [intOf]; omega
      | some ad =>
        have hneq := fun wx => run_neq_slice_nil_any (P := Yba.prog) wx 26 9 (some ad) Lk (kc k) 0 0 Yba.underlying26
        have HKE : Hid (0 < Lk → ∃ b o, some ad = some ⟨b, o, none⟩ ∧ b < w.heap.size ∧ ∀ i, i < Lk → w.cell? ⟨b, o + i, none⟩ = some (.string (K k i))) := hkeys
        have HSZ : Hid (∀ i, i < Lk → (K k i).size ≤ maxLen) := hsize
        clear hkeys hsize hnil
        go_wp2_with fail
        go_loopw [23] (fun i w1 => ∃ (m : Nat) (D : DataW Value), m ≤ Lk ∧ i = .int .i64 m ∧ w1.ownsMap Yba.prog 9 anyElem (w0.heap.size + 1) m D ∧ KeysAre D (fun s => ∃ i, i < m ∧ K k i = s) ∧ Mid w0 w1) (fun i _ => Lk - (intOf i).toNat)
        case atStart => exact ⟨0, .map [], Nat.zero_le _, rfl, (mid_start w0).1, keys_congr keys_none (fun s => ⟨fun h => h.elim, fun ⟨i, hi, _⟩ => by omega⟩), (mid_start w0).2⟩
        case round =>
          obtain ⟨m, D, hm, rfl, hown, hkeys, hmid⟩ := hrel
          obtain ⟨q0, q1, q2⟩ := hmid.cells
          have hwi := hmid.below.size
          by_cases hml : m < Lk
          · obtain ⟨b2, o2, had, hb2, hkc⟩ := HKE.out (by omega)
            simp only [Option.some.injEq] at had
            subst had
            have hc2 := (hmid.below.cell (p := ⟨b2, o2 + m, none⟩) (by show b2 < _; omega)).trans ((HI.out.below.cell (p := ⟨b2, o2 + m, none⟩) hb2).trans (hkc m hml))
            have hks := HSZ.out m hml
            obtain ⟨km, hkm⟩ : ∃ x, K k m = x := ⟨_, rfl⟩
            rw [hkm] at hc2 hks
            have HKM : Hid (K k m = km) := hkm
            clear hkc hkm
            go_wp2_with (at_mapUpdate; refine wpList_mapUpdate_own _ rfl _ _ _ 41 rfl 9 45 law9 Yba.underlying41 anyElem (w0.heap.size + 1) m D rfl hown (by unfold maxLen; omega) _ _ _ rfl rfl (key_of km hks) _ [] rfl ?_; intro w5 hown5 hgrow5; have hmid5 := hmid.step hgrow5; clear hgrow5)
            go_roundw
            case rel => exact ⟨m + 1, _, by omega, by go_num, hown5, keys_congr (keys_put hkeys hown.isMap km) (fun s => by
              rw [← HKM.out]
              constructor
              · rintro (⟨i, hi, e⟩ | e)
                · exact ⟨i, by omega, e⟩
                · exact ⟨m, by omega, e⟩
              · rintro ⟨i, hi, e⟩
                by_cases him : i = m
                · subst him; exact .inr e
                · exact .inl ⟨i, by omega, e⟩), hmid5⟩
            case measure => simp [intOf]; omega
          · obtain rfl : m = Lk := by omega
            have hrole : RoleOk wr ⟨some ⟨b, o, none⟩, n, ka, L, kc, K⟩ k (some (w0.heap.size + 1)) := ⟨D, hown.mono (by omega), keys_congr hkeys (fun s => by unfold Lists.Has; rw [show (⟨some ⟨b, o, none⟩, n, ka, L, kc, K⟩ : Lists).L k = m from HLe.out])⟩
            have HR : Hid (RoleOk wr ⟨some ⟨b, o, none⟩, n, ka, L, kc, K⟩ k (some (w0.heap.size + 1))) := hrole
            have HMI : Hid (Mid w0 wr) := hmid
            have sub1' := (hmid.below.cell (p := ⟨w.heap.size + 1, 1, none⟩) (by show w.heap.size + 1 < _; omega)).trans sub1
            have hS1' : w.heap.size + 1 < wr.heap.size := by omega
            clear hrole hmid hown hkeys HKE HSZ sub1 fsub1
            go_wp2_with (at_builtin; refine wpList_append_lies _ rfl (.tmp 33) (.tmp 35) 25 rfl (w.heap.size + 2) 43 i0 _ 3 56 Yba.underlying25 hi hz0 hz1 hz2 rfl (by omega) _ k (rcells ms) rfl ((owns_below HI.out.own HMI.out.below).alloc _) ⟨wr.heap.size, 0, none⟩ 1 1 (role (some (w0.heap.size + 1))) rfl rfl (World.news_of_block (cs := #[.slice none 0 0, .slice none 0 0, .map (some (w0.heap.size + 1))]) (t := 43) (fr := (0, 0)) (heap_alloc_new wr _)) (role_one _) (by omega) (by unfold maxLen; omega) (by omega) (by simp; omega) (wr.heap.size + 1) (by simp) ?_; intro g cp w3 hown3 hgrow3 hat hlt3; obtain ⟨c3, z3⟩ := step_cell HI.out HMI.out.below hgrow3)
            go_roundw
            case rel => exact ⟨k + 1, ms ++ [some (w0.heap.size + 1)], some ⟨g, 0, none⟩, cp, by omega, by go_num, HI.out.step HMI.out.below HR.out hown3 hgrow3⟩
            case measure => simp [intOf]; omega
    · obtain rfl : k = n := by omega
      clear hlt hk
      have s1 := hinv.size
      obtain ⟨a0, a1, a2, a3, z0, z1, z2, z3⟩ := four hinv.res
      obtain ⟨b0, b1, b2, b3, _⟩ := four hinv.sub
      have HI : Hid (Inv w w0 ⟨a, k, ka, L, kc, K⟩ k ms va vc) := hinv
      clear hinv hmm
      go_wp2_with fail
      exact bodyPost_ret (v := .agg (subj (.slice va k vc))) (by simp [results, Yba.results6, go_sem, a0, a1, a2, a3]) rfl ⟨va, vc, ms, rfl, HI.out.built _ _ _ _⟩
end Go.Proofs.Ybulkbmya.laws
