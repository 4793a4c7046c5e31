/- tiergate.LawS3185BReads: the entries; the object that is built of them. -/
import Derived.Test.YbulkbmyaFmtBH
import Derived.Test.YbulkbmyaFmtBI
namespace Go.Proofs.YbulkbmyaFmt.lawS3185BReads
open Go.RowKit Go.Maps Go.Extern.Stop Go.Stop Go.Extern
open Go.Proofs.YbulkbmyaFmt.lawS3185AReads (mpath nil_of_isEmpty anyElem law9 key key_inj key_of isKey)
set_option linter.unusedVariables false

/-- 'm[k] = v' in a literal. -/
theorem wpList_insert_own {H : Type} {P : Program} (w : World) {ops : Array Oper} {rest : List Oper} {o : Oper} {a : Act} {Q : Exit → Act → World → Prop}
    (hg : o.guard = none) (m x v : Operand) (t : TypeId) (hop : o.op = Op.insert t m x v)
    (k e : TypeId) (K : Keyed P k) (ht : P.underlying t = some (.map k e)) (R : Value → Option (DataW H × List MemPlace)) (b n : Nat) (D : DataW H)
    (hm : a.eval m = .map (some b)) (hown : w.ownsMap P k R b n D) (hn : n < maxLen) (key val : Value) (kl : Lit) (hx : a.eval x = key) (hv : a.eval v = val) (hkey : keyOf P k key = some kl)
    (d : DataW H) (ps : List MemPlace) (hval : R val = some (d, ps))
    (hK : ∀ w', w'.ownsMap P k R b (n + 1) (D.put kl d) → w.grownBy w' (some b) → wpList P ops Q rest (a.put o.dst undef) w') :
    wpList P ops Q (o :: rest) a w := by
  refine wpList_plain hg fun K' hK' => ?_
  obtain ⟨w', hrun, r1, r2⟩ := hown.update K ht hn hkey hval
  unfold Oper.wp
  simp [execOp, hop, hm, hx, hv, hrun, Result.andThen]
  exact hK' _ _ (hK w' r1 r2)

/-- The entries as they lie in memory. -/
structure Ents where
  a : Option Addr
  n : Nat
  K : Nat → ByteArray
  kd : Nat → Int
  ea : Nat → Option Addr
  el : Nat → Nat
  ec : Nat → Nat
  S : Nat → Nat → ByteArray
  sk : Nat → Nat → Int

structure Ents.In (E : Ents) (w : World) : Prop where
  row : ∀ j, j < E.n → ∃ b o, E.a = some ⟨b, o, none⟩ ∧ b < w.heap.size ∧ w.cell? ⟨b, o + j * 3, none⟩ = some (.string (E.K j)) ∧ w.cell? ⟨b, o + j * 3 + 1, none⟩ = some (.int .u8 (E.kd j)) ∧ w.cell? ⟨b, o + j * 3 + 2, none⟩ = some (.slice (E.ea j) (E.el j) (E.ec j))
  elem : ∀ j, j < E.n → 0 < E.el j → ∃ b o, E.ea j = some ⟨b, o, none⟩ ∧ b < w.heap.size ∧ ∀ i, i < E.el j → w.cell? ⟨b, o + i * 2, none⟩ = some (.string (E.S j i)) ∧ w.cell? ⟨b, o + i * 2 + 1, none⟩ = some (.int .u8 (E.sk j i))
  kd : ∀ j, j < E.n → 0 ≤ E.kd j ∧ E.kd j ≤ 255
  sk : ∀ j, j < E.n → ∀ i, i < E.el j → 0 ≤ E.sk j i ∧ E.sk j i ≤ 255
  ksz : ∀ j, j < E.n → (E.K j).size ≤ 140737488355328
  ssz : ∀ j, j < E.n → ∀ i, i < E.el j → (E.S j i).size ≤ maxLen
  big : E.n ≤ 9223372036854775807
  bigs : ∀ j, j < E.n → E.el j ≤ 9223372036854775807

theorem Ents.In.below {E : Ents} {w w' : World} (h : E.In w) (hb : Below w.heap.size w w') : E.In w' := by
  have s := hb.size
  refine ⟨fun j hj => ?_, fun j hj h0 => ?_, h.kd, h.sk, h.ksz, h.ssz, h.big, h.bigs⟩
  · obtain ⟨b, o, h1, h2, h3, h4, h5⟩ := h.row j hj
    exact ⟨b, o, h1, by omega, (hb.cell (p := ⟨b, _, none⟩) h2).trans h3, (hb.cell (p := ⟨b, _, none⟩) h2).trans h4, (hb.cell (p := ⟨b, _, none⟩) h2).trans h5⟩
  · obtain ⟨b, o, h1, h2, h3⟩ := h.elem j hj h0
    exact ⟨b, o, h1, by omega, fun i hi => ⟨(hb.cell (p := ⟨b, _, none⟩) h2).trans (h3 i hi).1, (hb.cell (p := ⟨b, _, none⟩) h2).trans (h3 i hi).2⟩⟩

/-- Element i of entry j. -/
def Ents.elemOf (E : Ents) (j i : Nat) : Option ByteArray := if E.sk j i % 2 = 0 then some (E.S j i) else none
/-- The elements of entry j. -/
def Ents.list (E : Ents) (j : Nat) : List (Option ByteArray) := (List.range (E.el j)).map (E.elemOf j)
/-- The value of entry j. -/
def Ents.jv (E : Ents) (j : Nat) : JV := if E.kd j % 3 = 0 then .arr (E.list j) else if E.kd j % 3 = 1 then .str (E.K j) else .arr []

theorem Ents.jv_short {E : Ents} {j : Nat} (h : E.el j ≤ 300) : short (E.jv j) := by
  unfold Ents.jv
  split
  · show (E.list j).length ≤ 300
    simpa [Ents.list] using h
  · split
    · trivial
    · show ([] : List (Option ByteArray)).length ≤ 300
      simp

/-- While the object is built: the entries ix taken (the first of each key). -/
structure OInv (w : World) (E : Ents) (mr mroot mo : Nat) (D DR DM : DataW Value) (vs vi : Value) (ix : List Nat) (wr : World) : Prop where
  below : Below w.heap.size w wr
  roles : wr.ownsMap Ybaf.prog 9 anyElem mr 300 D
  root : wr.ownsMap Ybaf.prog 9 anyElem mroot 1 DR
  own : wr.ownsMap Ybaf.prog 9 anyElem mo ix.length DM
  ne1 : mr ≠ mo
  ne2 : mroot ≠ mo
  hi : w.heap.size ≤ mo
  col : Collected DM (fun _ => false) (ix.map fun i => (E.K i).data.toList)
  at_ : ∀ i ∈ ix, ∃ x, (∀ z, DM.atKey (key (E.K i)) z = .held x) ∧ Lies wr x (E.jv i)
  lt : ∀ i ∈ ix, i < E.n
  seen : wr.ownsRow w.heap.size 9 1 vs ix.length (ix.map fun i => Value.string (E.K i))
  idx : wr.ownsRow w.heap.size 3 1 vi ix.length (ix.map fun i : Nat => Value.int .i64 (i : Int))

theorem row_ne {w : World} {b e s k : Nat} {v : Value} {ys : List Value} (h : w.ownsRow b e s v k ys) {g t : Nat} {cs : Array Value} {fr : Nat × Nat} (hg : w.heap[g]? = some (.cells cs t fr)) (ht : t ≠ e) : some g ≠ v.ownBlock := by
  rcases h.2 with ⟨rfl, _⟩ | ⟨g', cap, cur, rfl, _, hgb, _⟩
  · simp [Value.ownBlock]
  · intro e'
    simp [Value.ownBlock] at e'
    subst e'
    rw [hg] at hgb
    simp at hgb
    exact ht hgb.2.1
theorem row_ne_map {w : World} {b e s k : Nat} {v : Value} {ys : List Value} (h : w.ownsRow b e s v k ys) {g : Nat} {o : Obj} (hg : w.heap[g]? = some o) (ho : o.isCells = false) : some g ≠ v.ownBlock := by
  rcases h.2 with ⟨rfl, _⟩ | ⟨g', cap, cur, rfl, _, hgb, _⟩
  · simp [Value.ownBlock]
  · intro e'
    simp [Value.ownBlock] at e'
    subst e'
    rw [hg] at hgb
    cases hgb
    cases ho
/-- A row of another type is kept behind an append. -/
theorem row_kept {w w1 : World} {b e s k b' e' s' k' : Nat} {v v' : Value} {ys ys' : List Value} (h : w.ownsRow b e s v k ys) (h' : w.ownsRow b' e' s' v' k' ys') (he : e ≠ e') (hg : w.grownBy w1 v'.ownBlock) : w1.ownsRow b e s v k ys := by
  refine h.kept hg ?_
  rcases h.2 with ⟨rfl, _⟩ | ⟨g, cap, cur, rfl, _, hgb, _⟩
  · exact .inl rfl
  · exact .inr (row_ne h' hgb he)
theorem map_kept {w w1 : World} {b' e' s' k' m n : Nat} {v' : Value} {ys' : List Value} {D : DataW Value} (h : w.ownsMap Ybaf.prog 9 anyElem m n D) (h' : w.ownsRow b' e' s' v' k' ys') (hg : w.grownBy w1 v'.ownBlock) : w1.ownsMap Ybaf.prog 9 anyElem m n D := by
  obtain ⟨es, clock, e⟩ := owns_isMap h
  exact owns_map_block h (hg.block m h.lt (row_ne_map h' e rfl))
theorem lies_kept {w w1 : World} {b' e' s' k' : Nat} {v' x : Value} {ys' : List Value} {j : JV} (h : Lies w x j) (h' : w.ownsRow b' e' s' v' k' ys') (he : (20 : Nat) ≠ e') (hg : w.grownBy w1 v'.ownBlock) : Lies w1 x j :=
  h.same fun g cur hgb => (hg.block g (Array.getElem?_eq_some_iff.1 hgb).1 (row_ne h' hgb he)).trans hgb
theorem row_below {w w' : World} {base e size n : Nat} {v : Value} {xs : List Value} (h : w.ownsRow base e size v n xs) (hb : Below w.heap.size w w') : w'.ownsRow base e size v n xs := by
  obtain ⟨h1, h2⟩ := h
  refine ⟨h1, ?_⟩
  rcases h2 with h2 | ⟨g, cap, cur, hv, hg, hh, r⟩
  · exact Or.inl h2
  · exact Or.inr ⟨g, cap, cur, hv, hg, by rw [hb.block g (Array.getElem?_eq_some_iff.1 hh).1]; exact hh, r⟩

section
variable {w wr w' : World} {E : Ents} {mr mroot mo : Nat} {D DR DM : DataW Value} {vs vi : Value} {ix : List Nat}

theorem OInv.keep (h : OInv w E mr mroot mo D DR DM vs vi ix wr) (hb : Below wr.heap.size wr w') : OInv w E mr mroot mo D DR DM vs vi ix w' :=
  ⟨h.below.trans (hb.mono h.below.size), owns_map_block h.roles (hb.block _ h.roles.lt), owns_map_block h.root (hb.block _ h.root.lt), owns_map_block h.own (hb.block _ h.own.lt), h.ne1, h.ne2, h.hi, h.col,
   fun i hi => by obtain ⟨x, h1, h2⟩ := h.at_ i hi; exact ⟨x, h1, h2.below hb⟩, h.lt, row_below h.seen hb, row_below h.idx hb⟩

/-- The seen keys and the indices have been appended. -/
structure Mid (w : World) (E : Ents) (mr mroot mo : Nat) (D DR DM : DataW Value) (vs vi : Value) (ix : List Nat) (j : Nat) (wr : World) : Prop where
  below : Below w.heap.size w wr
  roles : wr.ownsMap Ybaf.prog 9 anyElem mr 300 D
  root : wr.ownsMap Ybaf.prog 9 anyElem mroot 1 DR
  own : wr.ownsMap Ybaf.prog 9 anyElem mo ix.length DM
  ne1 : mr ≠ mo
  ne2 : mroot ≠ mo
  hi : w.heap.size ≤ mo
  col : Collected DM (fun _ => false) (ix.map fun i => (E.K i).data.toList)
  at_ : ∀ i ∈ ix, ∃ x, (∀ z, DM.atKey (key (E.K i)) z = .held x) ∧ Lies wr x (E.jv i)
  lt : ∀ i ∈ ix ++ [j], i < E.n
  seen : wr.ownsRow w.heap.size 9 1 vs (ix.length + 1) ((ix ++ [j]).map fun i => Value.string (E.K i))
  idx : wr.ownsRow w.heap.size 3 1 vi (ix.length + 1) ((ix ++ [j]).map fun i : Nat => Value.int .i64 (i : Int))

theorem own_from {b e s k : Nat} {v : Value} {ys : List Value} (h : wr.ownsRow b e s v k ys) : ∀ r, v.ownBlock = some r → b ≤ r := own_ge h

theorem OInv.mid {w3 w4 : World} {j : Nat} {vs' vi' : Value} {t1 t2 : Obj} (h : OInv w E mr mroot mo D DR DM vs vi ix wr) (hj : j < E.n)
    (ho3 : w3.ownsRow w.heap.size 9 1 vs' (ix.length + 1) ((ix.map fun i => Value.string (E.K i)) ++ [.string (E.K j)])) (hg3 : (wr.alloc t1).grownBy w3 vs.ownBlock)
    (ho4 : w4.ownsRow w.heap.size 3 1 vi' (ix.length + 1) ((ix.map fun i : Nat => Value.int .i64 (i : Int)) ++ [.int .i64 (j : Int)])) (hg4 : (w3.alloc t2).grownBy w4 vi.ownBlock) : Mid w E mr mroot mo D DR DM vs' vi' ix j w4 := by
  have a1 := h.keep ((Below.refl _ _).alloc (Nat.le_refl _) t1)
  have hidx3 : w3.ownsRow w.heap.size 3 1 vi ix.length (ix.map fun i : Nat => Value.int .i64 (i : Int)) := row_kept a1.idx a1.seen (by decide) hg3
  have hb3 : Below w.heap.size w w3 := a1.below.grown hg3 a1.below.size (own_ge a1.seen)
  have hidx3a := hidx3.alloc t2
  have hb4 : Below w.heap.size w w4 := (hb3.alloc hb3.size t2).grown hg4 (Nat.le_trans hb3.size (by simp)) (own_ge hidx3a)
  have hbt : Below w3.heap.size w3 (w3.alloc t2) := (Below.refl _ _).alloc (Nat.le_refl _) _
  refine ⟨hb4, map_kept (owns_map_block (map_kept a1.roles a1.seen hg3) (hbt.block _ (map_kept a1.roles a1.seen hg3).lt)) hidx3a hg4, map_kept (owns_map_block (map_kept a1.root a1.seen hg3) (hbt.block _ (map_kept a1.root a1.seen hg3).lt)) hidx3a hg4,
    map_kept (owns_map_block (map_kept a1.own a1.seen hg3) (hbt.block _ (map_kept a1.own a1.seen hg3).lt)) hidx3a hg4, h.ne1, h.ne2, h.hi, h.col, fun i hi => ?_, fun i hi => ?_, ?_, ?_⟩
  · obtain ⟨x, h1, h2⟩ := a1.at_ i hi
    exact ⟨x, h1, lies_kept ((lies_kept h2 a1.seen (by decide) hg3).below hbt) hidx3a (by decide) hg4⟩
  · rcases List.mem_append.1 hi with hi | hi
    · exact h.lt i hi
    · simp at hi
      omega
  · have := row_kept (ho3.alloc t2) hidx3a (by decide) hg4
    simpa using this
  · simpa using ho4

theorem Mid.keep {j : Nat} (h : Mid w E mr mroot mo D DR DM vs vi ix j wr) (hb : Below wr.heap.size wr w') : Mid w E mr mroot mo D DR DM vs vi ix j w' :=
  ⟨h.below.trans (hb.mono h.below.size), owns_map_block h.roles (hb.block _ h.roles.lt), owns_map_block h.root (hb.block _ h.root.lt), owns_map_block h.own (hb.block _ h.own.lt), h.ne1, h.ne2, h.hi, h.col,
   fun i hi => by obtain ⟨x, h1, h2⟩ := h.at_ i hi; exact ⟨x, h1, h2.below hb⟩, h.lt, row_below h.seen hb, row_below h.idx hb⟩

/-- The entry's value is stored. -/
theorem Mid.put {j : Nat} {x : Value} (h : Mid w E mr mroot mo D DR DM vs vi ix j wr) (hnew : ∀ i ∈ ix, E.K i ≠ E.K j) (hx : Lies wr x (E.jv j))
    (ho : w'.ownsMap Ybaf.prog 9 anyElem mo (ix.length + 1) (DM.put (key (E.K j)) (.held x))) (hg : wr.grownBy w' (some mo)) : OInv w E mr mroot mo D DR (DM.put (key (E.K j)) (.held x)) vs vi (ix ++ [j]) w' := by
  obtain ⟨es, clock, hmap⟩ := owns_isMap h.own
  have hlies : ∀ {y : Value} {q : JV}, Lies wr y q → Lies w' y q := fun hy => hy.same fun g cur hgb => by
    rw [hg.block g (Array.getElem?_eq_some_iff.1 hgb).1 ?_]
    · exact hgb
    · intro e
      simp at e
      subst e
      rw [hmap] at hgb
      cases hgb
  have hrow : ∀ {e k : Nat} {v : Value} {ys : List Value}, wr.ownsRow w.heap.size e 1 v k ys → w'.ownsRow w.heap.size e 1 v k ys := fun hr => hr.kept hg (by
    rcases hr.2 with ⟨rfl, _⟩ | ⟨g, cap, cur, rfl, _, hgb, _⟩
    · exact .inl rfl
    · refine .inr fun e => ?_
      simp [Value.ownBlock] at e
      subst e
      rw [hmap] at hgb
      cases hgb)
  have hni : (E.K j).data.toList ∉ ix.map fun i => (E.K i).data.toList := fun hm => by
    obtain ⟨i, hi, e⟩ := List.mem_map.1 hm
    exact hnew i hi (ByteArray.ext (Array.toList_inj.1 e))
  refine ⟨h.below.grown hg h.below.size (fun r e => by cases e; exact h.hi), owns_map_block h.roles (hg.block _ h.roles.lt (fun e => h.ne1 (by simpa using e))), owns_map_block h.root (hg.block _ h.root.lt (fun e => h.ne2 (by simpa using e))), by simpa using ho, h.ne1, h.ne2, h.hi, ⟨?_, fun y => ?_⟩, fun i hi => ?_, h.lt, by simpa using hrow h.seen, by simpa using hrow h.idx⟩
  · rw [List.map_append]
    exact List.nodup_append.2 ⟨h.col.1, by simp, fun a ha b hb => by simp at hb; subst hb; exact fun e => hni (e ▸ ha)⟩
  · rw [List.map_append, List.mem_append, h.col.2 y]
    have hk : key (E.K j) = Lit.string (E.K j).data.toList := rfl
    by_cases e : y = (E.K j).data.toList
    · subst e
      rw [← hk]
      simp [has_put_same h.own.isMap (isKey (E.K j))]
    · rw [show (Lit.string y) = key ⟨y.toArray⟩ by simp [key], has_put_other (fun h => e (by have := congrArg (fun b : ByteArray => b.data.toList) (key_inj h); simpa using this))]
      simp [e]
  · rcases List.mem_append.1 hi with hi | hi
    · obtain ⟨y, h1, h2⟩ := h.at_ i hi
      exact ⟨y, fun z => by rw [atKey_put_other (fun h => hnew i hi (key_inj h))]; exact h1 z, hlies h2⟩
    · simp at hi
      subst hi
      exact ⟨x, fun z => atKey_put_same h.own.isMap (isKey _) _ _, hlies hx⟩

/-- The start: no entry taken. -/
theorem OInv.start {w w2 : World} {E : Ents} {mr mroot : Nat} {D DR : DataW Value} (hb : Below w.heap.size w w2) (hr : w2.ownsMap Ybaf.prog 9 anyElem mr 300 D) (ho : w2.ownsMap Ybaf.prog 9 anyElem mroot 1 DR) :
    OInv w E mr mroot (w2.heap.size + 2) D DR (.map []) (.slice (some ⟨w2.heap.size, 0, none⟩) 0 0) (.slice (some ⟨w2.heap.size + 1, 0, none⟩) 0 0) [] (((w2.alloc (.cells #[] 9)).alloc (.cells #[] 3)).alloc (.map #[] 0)) := by
  have hbx : Below w2.heap.size w2 (((w2.alloc (.cells #[] 9)).alloc (.cells #[] 3)).alloc (.map #[] 0)) := (((Below.refl _ _).alloc (Nat.le_refl _) _).alloc (by simp) _).alloc (by simp; omega) _
  have hm := World.ownsMap_made (H := Value) ((w2.alloc (.cells #[] 9)).alloc (.cells #[] 3)) Ybaf.prog 9 anyElem
  simp only [World.size_alloc] at hm
  have hs := hb.size
  have e1 : (((w2.alloc (.cells #[] 9)).alloc (.cells #[] 3)).alloc (.map #[] 0)).heap[w2.heap.size]? = some (.cells #[] 9 (0, 0)) := by
    rw [Below.heap_alloc _ _ _ (by simp; omega), Below.heap_alloc _ _ _ (by simp)]
    exact World.alloc_heap_new w2 _
  have e2 : (((w2.alloc (.cells #[] 9)).alloc (.cells #[] 3)).alloc (.map #[] 0)).heap[w2.heap.size + 1]? = some (.cells #[] 3 (0, 0)) := by
    rw [Below.heap_alloc _ _ _ (by simp)]
    have := World.alloc_heap_new (w2.alloc (.cells #[] 9)) (.cells #[] 3)
    rwa [World.size_alloc] at this
  refine ⟨hb.trans (hbx.mono hs), owns_map_block hr (hbx.block _ hr.lt), owns_map_block ho (hbx.block _ ho.lt), hm, by have := hr.lt; omega, by have := ho.lt; omega, by omega, ⟨List.nodup_nil, fun x => by simp [Maps.has]⟩, fun i hi => by simp at hi, fun i hi => by simp at hi,
    ⟨by simp, .inr ⟨w2.heap.size, 0, #[], rfl, by omega, e1, by simp, by simp, by simp, by simp⟩⟩, ⟨by simp, .inr ⟨w2.heap.size + 1, 0, #[], rfl, by omega, e2, by simp, by simp, by simp, by simp⟩⟩⟩

theorem strs_of_row {w : World} {b k : Nat} {g c : Nat} {l : List ByteArray} (h : w.ownsRow b 9 1 (.slice (some ⟨g, 0, none⟩) k c) k (l.map Value.string)) (hl : l.length = k) : StrsAt w (some ⟨g, 0, none⟩) l := by
  intro h0
  have hlt : g < w.heap.size := by
    rcases h.2 with ⟨e, _⟩ | ⟨g', cap, cur, e, _, hgb, _⟩
    · simp at e
    · simp at e
      rw [e.1]
      exact (Array.getElem?_eq_some_iff.1 hgb).1
  refine ⟨g, 0, rfl, hlt, fun i hi => ?_⟩
  rw [Nat.zero_add, h.cellAt i (by omega), List.getElem?_map, List.getElem?_eq_getElem hi, List.getD_eq_getElem?_getD, List.getElem?_eq_getElem hi]
  rfl
theorem OInv.strs {g c : Nat} (h : OInv w E mr mroot mo D DR DM (.slice (some ⟨g, 0, none⟩) ix.length c) vi ix wr) : StrsAt wr (some ⟨g, 0, none⟩) (ix.map E.K) := by
  have := h.seen
  rw [show (ix.map fun i => Value.string (E.K i)) = (ix.map E.K).map Value.string by simp] at this
  exact strs_of_row this (by simp)
end
end Go.Proofs.YbulkbmyaFmt.lawS3185BReads
