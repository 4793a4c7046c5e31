/- tiergate.LawS3185BReads: the loops that reckon. -/
import Derived.Test.YbulkbmyaFmtBO
namespace Go.Proofs.YbulkbmyaFmt.lawS3185BReads
open Go.RowKit Go.Maps Go.Extern.Stop Go.Stop Go.Extern
open Go.Proofs.YbulkbmyaFmt.lawS3185AReads (mpath nil_of_isEmpty anyElem law9 key key_inj key_of isKey)
set_option linter.unusedVariables false

theorem bhas_b (a : Option Addr) (cap n : Nat) (l : List ByteArray) (s : ByteArray) (w : World) (bb : Bool) (hn : l.length = n) (hbig : n ≤ 100000) (h : StrsAt w a l) (hb : bb = true ↔ s ∈ l) :
    Calls Ybaf.prog 7 #[.slice a n cap, .string s] w fun e w' => e = .returned (.bool bb) ∧ w = w' := by
  cases bb with
  | true => exact bhas_yes a cap n l s w hn hbig h (hb.1 rfl)
  | false => exact bhas_no a cap n l s w hn hbig h (fun hm => by have := hb.2 hm; cases this)

theorem bool_of (P : Prop) : ∃ b : Bool, b = true ↔ P := by
  by_cases h : P
  · exact ⟨true, ⟨fun _ => h, fun _ => rfl⟩⟩
  · exact ⟨false, ⟨fun h => (by simp at h), fun h' => absurd h' h⟩⟩

theorem Got.fin {w wc wr wx : World} {E : Ents} {N : List ByteArray} {mode : Int} {D : DataW Value} {path : ByteArray} {p : Nat} {vs vi : Value} (h : Got w E N mode D path wc wr p vs vi (.map none) wx) : (mode = 1 → Fin mode path wc p (.int .i64 1) wx) ∧ (mode ≠ 1 → Fin mode path wc p (.int .i64 0) wx) := by
  refine ⟨fun h1 => ?_, fun h1 => ?_⟩
  · rcases h.res with ⟨hm, _⟩ | ⟨hm, _, q, hf⟩ | ⟨hm, _⟩
    · omega
    · exact ⟨h.below, 1, _, rfl, by omega, hf, fun _ => ⟨rfl, q, rfl⟩⟩
    · omega
  · rcases h.res with ⟨hm, _, hf⟩ | ⟨hm, _⟩ | ⟨hm, DM, ix, _, _, _, _, _, _, ⟨_, _, hf⟩ | ⟨_, m', D', e, _⟩⟩
    · exact ⟨h.below, 0, [], rfl, by omega, by simpa using hf, fun e => absurd e h1⟩
    · exact absurd hm h1
    · exact ⟨h.below, 0, [], rfl, by omega, by simpa using hf, fun e => absurd e h1⟩
    · cases e

/-- An object with members has been read. -/
structure Full (w : World) (E : Ents) (D : DataW Value) (wc : World) (p : Nat) (vs vi : Value) (ix : List Nat) (L m' : Nat) (D' : DataW Value) (wx : World) : Prop where
  lt : ∀ i ∈ ix, i < E.n
  len : ix.length = L
  pos : 0 < L
  big : L ≤ 300
  seen : wx.ownsRow w.heap.size 9 1 vs L (ix.map fun i => Value.string (E.K i))
  idx : wx.ownsRow w.heap.size 3 1 vi L (ix.map fun i : Nat => Value.int .i64 (i : Int))
  own : wx.ownsMap Ybaf.prog 9 anyElem m' 300 D'
  size : Maps.size D' = L
  has : ∀ i ∈ ix, Maps.has D' (key (E.K i)) = true
  at_ : ∀ i ∈ ix, ∃ u, (∀ z, D'.atKey (key (E.K i)) z = .held u) ∧ Out wx u (E.jv i)
  flt : ∃ ys, Flt wc.heap.size wc.heap.size wx (p + nfOf D E ix L) (pri p ++ ys)

theorem Got.full {w wc wr wx : World} {E : Ents} {N : List ByteArray} {mode : Int} {D : DataW Value} {path : ByteArray} {p : Nat} {vs vi t : Value} (h : Got w E N mode D path wc wr p vs vi t wx) (hm : mode = 2) (ht : t ≠ .map none) :
    ∃ ix L m' D', t = .map (some m') ∧ Full w E D wc p vs vi ix L m' D' wx := by
  rcases h.res with ⟨hm', _⟩ | ⟨hm', _⟩ | ⟨_, DM, ix, hnd, hp, hlt, hl, hs, hi, ⟨_, e, _⟩ | ⟨h0, m', D', e, hO, hf⟩⟩
  · omega
  · omega
  · exact absurd e ht
  · have hmem : ∀ i ∈ ix, (E.K i).data.toList ∈ strKeys DM := fun i hi => hp.mem_iff.1 (List.mem_map.2 ⟨i, hi, rfl⟩)
    refine ⟨ix, ix.length, m', D', e, hlt, rfl, List.length_pos_iff.2 h0, hl, hs, hi, hO.own, ?_, fun i hi => (hO.has _).2 (hmem i hi), fun i hi => ?_, ?_⟩
    · rw [hO.size, ← hp.length_eq, List.length_map]
    · obtain ⟨u, h1, h2⟩ := hO.at_ _ (hmem i hi)
      rw [jof_mem hnd hi] at h2
      exact ⟨u, h1, h2⟩
    · rw [nfOf_all hnd, tot_perm hp]
      exact hf

theorem row_empty (w : World) (t : TypeId) : (w.alloc (.cells #[] t)).ownsRow w.heap.size t 1 (.slice (some ⟨w.heap.size, 0, none⟩) 0 0) 0 [] :=
  ⟨by simp, .inr ⟨w.heap.size, 0, #[], rfl, Nat.le_refl _, World.alloc_heap_new w _, by simp, by simp, by simp, by simp⟩⟩

theorem far_of {wr1 w3 : World} {Bx b e s k t : Nat} {cs : Array Value} {v : Value} {ys : List Value} (h1 : wr1.heap[Bx]? = some (.cells cs t (0, 0))) (hr : wr1.ownsRow b e s v k ys) (he : t ≠ e) (hg : wr1.grownBy w3 v.ownBlock) : w3.heap[Bx]? = some (.cells cs t (0, 0)) :=
  (hg.block Bx (Array.getElem?_eq_some_iff.1 h1).1 (row_ne hr h1 he)).trans h1

theorem two48 {w : World} {b : Nat} {v0 v1 : Value} {t : TypeId} (h : w.heap[b]? = some (.cells #[v0, v1] t (0, 0))) : w.cell? ⟨b, 0, none⟩ = some v0 ∧ w.cell? ⟨b, 1, none⟩ = some v1 :=
  ⟨(cell_of_row w b 0 _ _ _ h).trans rfl, (cell_of_row w b 1 _ _ _ h).trans rfl⟩

/-- The expected strings, r elements in. -/
structure Exp (E : Ents) (D : DataW Value) (iq n0 : Nat) (wz : World) (r ul n5 : Nat) (v : Value) (wi : World) : Prop where
  below : Below wz.heap.size wz wi
  row : wi.ownsRow wz.heap.size 9 1 v ul (((E.first iq r).filterMap id).map Value.string)
  len : ((E.first iq r).filterMap id).length = ul
  cnt : n5 = n0 + jcL D (E.first iq r)

section
variable {E : Ents} {D : DataW Value} {iq n0 r ul n5 : Nat} {wz wi w6 : World} {v v' : Value}
theorem Exp.start (E : Ents) (D : DataW Value) (iq n0 : Nat) (wz : World) : Exp E D iq n0 wz 0 0 n0 (.slice (some ⟨wz.heap.size, 0, none⟩) 0 0) (wz.alloc (.cells #[] 9)) :=
  ⟨(Below.refl _ _).alloc (Nat.le_refl _) _, row_empty wz 9, rfl, by simp [first_zero, jcL]⟩
theorem Exp.push {s : ByteArray} {t1 t2 : Obj} (h : Exp E D iq n0 wz r ul n5 v wi) (hr : r < E.el iq) (he : E.elemOf iq r = .some s) (ho : w6.ownsRow wz.heap.size 9 1 v' (ul + 1) (((E.first iq r).filterMap id).map Value.string ++ [.string s])) (hg : ((wi.alloc t1).alloc t2).grownBy w6 v.ownBlock) {n6 : Nat} (hn : n6 = n5 + rc D s) :
    Exp E D iq n0 wz (r + 1) (ul + 1) n6 v' w6 := by
  have e : (E.first iq (r + 1)).filterMap id = (E.first iq r).filterMap id ++ [s] := by rw [first_succ hr, he, List.filterMap_append]; rfl
  refine ⟨below_app h.below h.row hg, ?_, ?_, ?_⟩
  · rw [e, List.map_append]
    exact ho
  · rw [e, List.length_append, h.len]
    rfl
  · rw [hn, h.cnt, first_succ hr, jcL_snoc, he]
    simp only [jcE]
    omega
theorem Exp.skip {t1 : Obj} (h : Exp E D iq n0 wz r ul n5 v wi) (hr : r < E.el iq) (he : E.elemOf iq r = .none) : Exp E D iq n0 wz (r + 1) ul (n5 + 1) v (wi.alloc t1) := by
  have e : (E.first iq (r + 1)).filterMap id = (E.first iq r).filterMap id := by rw [first_succ hr, he, List.filterMap_append]; simp
  refine ⟨h.below.alloc h.below.size _, ?_, ?_, ?_⟩
  · rw [e]
    exact h.row.alloc _
  · rw [e]
    exact h.len
  · rw [h.cnt, first_succ hr, jcL_snoc, he]
    simp only [jcE]
    omega
theorem Exp.ul_le (h : Exp E D iq n0 wz r ul n5 v wi) : ul ≤ r := by rw [← h.len]; exact first_le E iq r
theorem Exp.n5_le (h : Exp E D iq n0 wz r ul n5 v wi) : n5 ≤ n0 + r := by have := jfirst_le D E iq r; rw [h.cnt]; omega
theorem Exp.strs {g c : Nat} (h : Exp E D iq n0 wz (E.el iq) ul n5 (.slice (.some ⟨g, 0, .none⟩) ul c) wi) : StrsAt wi (.some ⟨g, 0, .none⟩) ((E.list iq).filterMap id) := by
  have h1 := h.row
  have h2 := h.len
  rw [first_all] at h1 h2
  exact strs_of_row h1 h2
theorem Exp.done {g c : Nat} (h : Exp E D iq n0 wz (E.el iq) ul n5 (.slice (.some ⟨g, 0, .none⟩) ul c) wi) : ((E.list iq).filterMap id).length = ul ∧ n5 = n0 + jcL D (E.list iq) := by
  have h1 := h.cnt
  have h2 := h.len
  rw [first_all] at h1 h2
  exact ⟨h2, h1⟩
end

theorem out_strs {w : World} {g : Nat} {cur : Array Value} {l : List ByteArray} (h : w.heap[g]? = some (.cells cur 9 (0, 0))) (hc : ∀ i, i < l.length → cur[i]? = some (.string (l.getD i ⟨#[]⟩))) : StrsAt w (some ⟨g, 0, none⟩) l :=
  fun _ => ⟨g, 0, rfl, (Array.getElem?_eq_some_iff.1 h).1, fun i hi => by rw [Nat.zero_add]; exact (cell_of_row w g i _ _ _ h).trans (hc i hi)⟩
end Go.Proofs.YbulkbmyaFmt.lawS3185BReads
