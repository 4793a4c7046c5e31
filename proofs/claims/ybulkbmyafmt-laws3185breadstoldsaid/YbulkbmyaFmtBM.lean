/- tiergate.LawS3185BReads: what holds at the law's cuts. -/
import Derived.Test.YbulkbmyaFmtBL
import Derived.Deep.DeepCutAuto
import Derived.BigQuiet
import Derived.Deep.QuietTactic
import Derived.WalkSmall
namespace Go.Proofs.YbulkbmyaFmt.lawS3185BReads
open Go.RowKit Go.Maps Go.Extern.Stop Go.Stop Go.Extern
open Go.Proofs.YbulkbmyaFmt.lawS3185AReads (mpath nil_of_isEmpty anyElem law9 key key_inj key_of isKey)
set_option linter.unusedVariables false

theorem make41 (n : Int) (w : World) : (Instr.makeMap 41 (some (.int .i64 n))).run Ybaf.prog w = .ok (.map (some w.heap.size)) (w.alloc (.map #[] 0)) := by kernel_rfl
theorem make26n (w : World) : (Instr.makeMap 26 none).run Ybaf.prog w = .ok (.map (some w.heap.size)) (w.alloc (.map #[] 0)) := by kernel_rfl

/-- "other". -/
abbrev OTH : ByteArray := ⟨#[111, 116, 104, 101, 114]⟩
theorem oth_size : OTH.size ≤ maxLen := by unfold maxLen; show 5 ≤ _; omega

/-- The roles' map, k names in. -/
structure RInv (w : World) (N : List ByteArray) (k : Nat) (D : DataW Value) (wr : World) : Prop where
  below : Below w.heap.size w wr
  own : wr.ownsMap Ybaf.prog 9 anyElem w.heap.size k D
  has : ∀ s, Maps.has D (key s) = true ↔ s ∈ N.take k
  at_ : ∀ s z, Maps.has D (key s) = true → D.atKey (key s) z = .held Z44

theorem RInv.start (w : World) (N : List ByteArray) : RInv w N 0 (.map []) (w.alloc (.map #[] 0)) :=
  ⟨(Below.refl _ _).alloc (Nat.le_refl _) _, World.ownsMap_made (H := Value) w Ybaf.prog 9 anyElem, fun s => by simp [Maps.has], fun s z h => by simp [Maps.has] at h⟩

theorem RInv.step {w wr w1 : World} {N : List ByteArray} {k : Nat} {D : DataW Value} (h : RInv w N k D wr) (hk : k < N.length) (ho : w1.ownsMap Ybaf.prog 9 anyElem w.heap.size (k + 1) (D.put (key (N.getD k ⟨#[]⟩)) (.held Z44))) (hg : wr.grownBy w1 (some w.heap.size)) :
    RInv w N (k + 1) (D.put (key (N.getD k ⟨#[]⟩)) (.held Z44)) w1 := by
  have e : N.take (k + 1) = N.take k ++ [N.getD k ⟨#[]⟩] := by rw [List.take_add_one, List.getD_eq_getElem?_getD, List.getElem?_eq_getElem hk]; rfl
  refine ⟨h.below.grown hg h.below.size (fun r e => by cases e; exact Nat.le_refl _), ho, fun s => ?_, fun s z hs => ?_⟩
  · rw [e, List.mem_append, List.mem_singleton, ← h.has]
    by_cases e' : s = N.getD k ⟨#[]⟩
    · rw [← e']
      simp [has_put_same h.own.isMap (isKey s)]
    · rw [has_put_other (fun h => e' (key_inj h))]
      exact ⟨.inl, fun h => h.resolve_right e'⟩
  · by_cases e' : s = N.getD k ⟨#[]⟩
    · rw [e']
      exact atKey_put_same h.own.isMap (isKey _) _ _
    · rw [has_put_other (fun h => e' (key_inj h))] at hs
      rw [atKey_put_other (fun h => e' (key_inj h))]
      exact h.at_ s z hs

/-- Behind the building of the tree. -/
structure Stage (w : World) (E : Ents) (N : List ByteArray) (mode : Int) (D : DataW Value) (mroot : Nat) (vs vi : Value) (wc : World) : Prop where
  below : Below w.heap.size w wc
  roles : wc.ownsMap Ybaf.prog 9 anyElem w.heap.size 300 D
  rest : (mode = 0 ∧ ∃ DR, wc.ownsMap Ybaf.prog 9 anyElem mroot 2 DR ∧ Maps.has DR (key ASG) = false) ∨
    (mode = 1 ∧ ∃ DR t, wc.ownsMap Ybaf.prog 9 anyElem mroot 2 DR ∧ Maps.has DR (key ASG) = true ∧ ∀ z, DR.atKey (key ASG) z = .held (.iface 9 (.string t))) ∨
    (mode = 2 ∧ ∃ (DR : DataW Value) (mo : Nat) (DM : DataW Value) (ix : List Nat), wc.ownsMap Ybaf.prog 9 anyElem mroot 2 DR ∧ Maps.has DR (key ASG) = true ∧ (∀ z, DR.atKey (key ASG) z = .held (.iface 26 (.map (some mo)))) ∧ wc.ownsMap Ybaf.prog 9 anyElem mo 300 DM ∧
      Collected DM (fun _ => false) (ix.map fun i => (E.K i).data.toList) ∧ (∀ i ∈ ix, ∃ x, (∀ z, DM.atKey (key (E.K i)) z = .held x) ∧ Lies wc x (E.jv i)) ∧ (∀ i ∈ ix, i < E.n) ∧ ix.length ≤ 300 ∧
      wc.ownsRow w.heap.size 9 1 vs ix.length (ix.map fun i => Value.string (E.K i)) ∧ wc.ownsRow w.heap.size 3 1 vi ix.length (ix.map fun i : Nat => Value.int .i64 (i : Int)))

theorem RInv.keep {w wr w' : World} {N : List ByteArray} {k : Nat} {D : DataW Value} (h : RInv w N k D wr) (hb : Below wr.heap.size wr w') : RInv w N k D w' :=
  ⟨h.below.trans (hb.mono h.below.size), owns_map_block h.own (hb.block _ h.own.lt), h.has, h.at_⟩
theorem RInv.hi {w wr : World} {N : List ByteArray} {k : Nat} {D : DataW Value} (h : RInv w N k D wr) : w.heap.size < wr.heap.size := h.own.lt

theorem root_no (x : Value) : Maps.has ((DataW.map []).put (key OTH) (.held x)) (key ASG) = false := by
  rw [has_put_other (fun h => by have := key_inj h; revert this; decide)]
  rfl

theorem Stage.zero {w w2 wc : World} {E : Ents} {N : List ByteArray} {k mroot : Nat} {D : DataW Value} {vs vi x : Value} (h : RInv w N k D w2) (hb : Below w2.heap.size w2 wc) (hk : k ≤ 300) (ho : w2.ownsMap Ybaf.prog 9 anyElem mroot (0 + 1) ((DataW.map []).put (key OTH) (.held x))) :
    Stage w E N 0 D mroot vs vi wc :=
  ⟨(h.keep hb).below, (h.keep hb).own.mono hk, .inl ⟨rfl, _, (owns_map_block ho (hb.block _ ho.lt)).mono (by omega), root_no x⟩⟩

theorem Stage.one {w w2 wc w3 : World} {E : Ents} {N : List ByteArray} {k mroot : Nat} {D : DataW Value} {vs vi x : Value} {t : ByteArray} (h : RInv w N k D w2) (hb : Below w2.heap.size w2 wc) (hk : k ≤ 300) (ho : w2.ownsMap Ybaf.prog 9 anyElem mroot (0 + 1) ((DataW.map []).put (key OTH) (.held x))) (hlt : w.heap.size < mroot)
    (ho3 : w3.ownsMap Ybaf.prog 9 anyElem mroot (1 + 1) (((DataW.map []).put (key OTH) (.held x)).put (key ASG) (.held (.iface 9 (.string t))))) (hg3 : wc.grownBy w3 (some mroot)) :
    Stage w E N 1 D mroot vs vi w3 := by
  have h1 := h.keep hb
  refine ⟨h1.below.grown hg3 h1.below.size (fun r e => by cases e; omega), (owns_map_block h1.own (hg3.block _ h1.own.lt (fun e => by simp at e; omega))).mono hk, .inr (.inl ⟨rfl, _, t, ho3, ?_, fun z => ?_⟩)⟩
  · exact has_put_same ho.isMap (isKey _) _
  · exact atKey_put_same ho.isMap (isKey _) _ _

theorem info9b : (Ybaf.prog.info? 9).map (fun i => (i.zero, i.size, i.bytes)) = some (some (.string ⟨#[]⟩), 1, 16) := by kernel_rfl
theorem info3b : (Ybaf.prog.info? 3).map (fun i => (i.zero, i.size, i.bytes)) = some (some (.int .i64 0), 1, 8) := by kernel_rfl
theorem info20b : (Ybaf.prog.info? 20).map (fun i => (i.zero, i.size, i.bytes)) = some (some .nilIface, 1, 16) := by kernel_rfl

theorem far40 {wr1 w3 : World} {t : Obj} {Bx b e s k : Nat} {cs : Array Value} {v : Value} {ys : List Value} (h : wr1.heap[Bx]? = some (.cells cs 40 (0, 0))) (hr : (wr1.alloc t).ownsRow b e s v k ys) (he : (40 : Nat) ≠ e) (hg : (wr1.alloc t).grownBy w3 v.ownBlock) : w3.heap[Bx]? = some (.cells cs 40 (0, 0)) := by
  have h1 : (wr1.alloc t).heap[Bx]? = some (.cells cs 40 (0, 0)) := (Below.heap_alloc _ _ _ (Array.getElem?_eq_some_iff.1 h).1).trans h
  exact (hg.block Bx (Array.getElem?_eq_some_iff.1 h1).1 (row_ne hr h1 he)).trans h1
theorem three40 {w : World} {b : Nat} {v0 v1 v2 : Value} {t : TypeId} (h : w.heap[b]? = some (.cells #[v0, v1, v2] t (0, 0))) : w.cell? ⟨b, 0, none⟩ = some v0 ∧ w.cell? ⟨b, 1, none⟩ = some v1 ∧ w.cell? ⟨b, 2, none⟩ = some v2 :=
  ⟨(cell_of_row w b 0 _ _ _ h).trans rfl, (cell_of_row w b 1 _ _ _ h).trans rfl, (cell_of_row w b 2 _ _ _ h).trans rfl⟩

/-- "prior". -/
abbrev PR : ByteArray := ⟨#[112, 114, 105, 111, 114]⟩
/-- The cells of n prior faults. -/
def pri : Nat → List Value
  | 0 => []
  | n + 1 => pri n ++ [.string PR, .string PR]

theorem elems_snoc {E : Ents} {q r : Nat} {us : List Value} {x : Value} (hl : us.length = r) (h : ∀ p, p < r → ElemIs (us.getD p undef) (E.elemOf q p)) (hx : ElemIs x (E.elemOf q r)) : ∀ p, p < r + 1 → ElemIs ((us ++ [x]).getD p undef) (E.elemOf q p) := by
  intro p hp
  by_cases e : p = r
  · subst e
    rw [List.getD_eq_getElem?_getD, List.getElem?_append_right (by omega), hl]
    simpa using hx
  · have := h p (by omega)
    rw [List.getD_eq_getElem?_getD] at this ⊢
    rw [List.getElem?_append_left (by omega)]
    exact this
theorem below_app {w4 wr w6 : World} {t1 t2 : Obj} {e s k : Nat} {v : Value} {ys : List Value} (h : Below w4.heap.size w4 wr) (hr : wr.ownsRow w4.heap.size e s v k ys) (hg : ((wr.alloc t1).alloc t2).grownBy w6 v.ownBlock) : Below w4.heap.size w4 w6 :=
  ((h.alloc h.size _).alloc (by have := h.size; simp; omega) _).grown hg (by have := h.size; simp; omega) (own_ge hr)

theorem lies_of_row {w : World} {E : Ents} {q b g n c : Nat} {us : List Value} (h : w.ownsRow b 20 1 (.slice (some ⟨g, 0, none⟩) n c) n us) (hl : us.length = n) (he : ∀ r, r < n → ElemIs (us.getD r undef) (E.elemOf q r)) (hn : E.el q = n) : Lies w (.iface 27 (.slice (some ⟨g, 0, none⟩) n c)) (.arr (E.list q)) := by
  have hll : (E.list q).length = n := by simp [Ents.list, hn]
  refine ⟨_, c, by rw [hll], fun _ => ?_⟩
  rcases h.2 with ⟨e, _⟩ | ⟨g', cap, cur, e, _, hgb, hle, _, hsz, htk⟩
  · simp at e
  · simp at e
    obtain ⟨rfl, rfl⟩ := e
    refine ⟨g, cur, rfl, hgb, fun i hi => ?_⟩
    rw [hll] at hi
    have h1 := congrArg (fun l : List Value => l[i]?) htk
    simp only [Nat.mul_one] at h1
    rw [List.getElem?_take_of_lt hi, Array.getElem?_toList] at h1
    have h2 := he i hi
    rw [List.getD_eq_getElem?_getD, List.getElem?_eq_getElem (by omega)] at h2
    refine ⟨us[i], by rw [h1, List.getElem?_eq_getElem (by omega)], ?_⟩
    have h3 : (E.list q).getD i none = E.elemOf q i := by
      rw [List.getD_eq_getElem?_getD]
      simp [Ents.list, hn, hi]
    rw [h3]
    simpa using h2

theorem Stage.two {w wr w3 : World} {E : Ents} {N : List ByteArray} {mroot mo : Nat} {D DR DM : DataW Value} {vs vi : Value} {ix : List Nat} (h : OInv w E w.heap.size mroot mo D DR DM vs vi ix wr) (hl : ix.length ≤ 300) (hlt : w.heap.size < mroot)
    (ho3 : w3.ownsMap Ybaf.prog 9 anyElem mroot (1 + 1) (DR.put (key ASG) (.held (.iface 26 (.map (some mo)))))) (hg3 : wr.grownBy w3 (some mroot)) : Stage w E N 2 D mroot vs vi w3 := by
  obtain ⟨es, clock, hmap⟩ := owns_isMap h.root
  have hrow : ∀ {e k : Nat} {v : Value} {ys : List Value}, wr.ownsRow w.heap.size e 1 v k ys → w3.ownsRow w.heap.size e 1 v k ys := fun hr => hr.kept hg3 (by
    rcases hr.2 with ⟨rfl, _⟩ | ⟨g, cap, cur, rfl, _, hgb, _⟩
    · exact .inl rfl
    · refine .inr fun e => ?_
      simp [Value.ownBlock] at e
      subst e
      rw [hmap] at hgb
      cases hgb)
  refine ⟨h.below.grown hg3 h.below.size (fun r e => by cases e; omega), owns_map_block h.roles (hg3.block _ h.roles.lt (fun e => by simp at e; omega)), .inr (.inr ⟨rfl, _, mo, DM, ix, ho3, has_put_same h.root.isMap (isKey _) _, fun z => atKey_put_same h.root.isMap (isKey _) _ _, (owns_map_block h.own (hg3.block _ h.own.lt (fun e => h.ne2 (by simpa using e.symm)))).mono hl, h.col, fun i hi => ?_, h.lt, hl, hrow h.seen, hrow h.idx⟩)⟩
  obtain ⟨x, h1, h2⟩ := h.at_ i hi
  refine ⟨x, h1, h2.same fun g cur hgb => ?_⟩
  rw [hg3.block g (Array.getElem?_eq_some_iff.1 hgb).1 ?_]
  · exact hgb
  · intro e
    simp at e
    subst e
    rw [hmap] at hgb
    cases hgb

/-- Behind readAssign. -/
structure Got (w : World) (E : Ents) (N : List ByteArray) (mode : Int) (D : DataW Value) (path : ByteArray) (wc wr : World) (p : Nat) (vs vi t : Value) (wx : World) : Prop where
  below : Below wc.heap.size wc wx
  kf : KF wc.heap.size wc.heap.size wr wx
  res : (mode = 0 ∧ t = .map none ∧ Flt wc.heap.size wc.heap.size wx p (pri p)) ∨
    (mode = 1 ∧ t = .map none ∧ ∃ q, Flt wc.heap.size wc.heap.size wx (p + 1) (pri p ++ [.string (mpath path ASG), .string q])) ∨
    (mode = 2 ∧ ∃ (DM : DataW Value) (ix : List Nat), (ix.map fun i => (E.K i).data.toList).Nodup ∧ (ix.map fun i => (E.K i).data.toList).Perm (strKeys DM) ∧ (∀ i ∈ ix, i < E.n) ∧ ix.length ≤ 300 ∧
      wx.ownsRow w.heap.size 9 1 vs ix.length (ix.map fun i => Value.string (E.K i)) ∧ wx.ownsRow w.heap.size 3 1 vi ix.length (ix.map fun i : Nat => Value.int .i64 (i : Int)) ∧
      ((ix = [] ∧ t = .map none ∧ Flt wc.heap.size wc.heap.size wx p (pri p)) ∨
       (ix ≠ [] ∧ ∃ m' D', t = .map (some m') ∧ MapOut wx (jof E ix) DM m' D' ∧ ∃ ys, Flt wc.heap.size wc.heap.size wx (p + tot D (jof E ix) (strKeys DM)) (pri p ++ ys))))

end Go.Proofs.YbulkbmyaFmt.lawS3185BReads
