/- tiergate.LawS3185C..: the subject that zzs3185cbuild makes: plain facts. -/
import Derived.Test.YbulkbmyaCA
import Derived.Maps.OwnSet
import Derived.Deep.AppendLies
namespace Go.Proofs.Ybulkbmya.laws
open Go.RowKit Go.Maps

/-- Every element is read as itself. -/
def anyElem (v : Value) : Option (DataW Value × List MemPlace) := some (.held v, [])
theorem law9 : Keyed Yba.prog 9 := string_keyed Yba.underlying9
/-- OrgPermissions{}. -/
abbrev Z : Value := .agg #[.slice none 0 0, .slice none 0 0]
theorem zero45 (w : World) : (zeroValue 45).run Yba.prog w = .ok Z w := by kernel_rfl

def key (s : ByteArray) : Lit := .string s.data.toList
theorem key_inj {a b : ByteArray} (h : key a = key b) : a = b := by
  unfold key at h
  simp at h
  exact ByteArray.ext h
theorem key_of (s : ByteArray) (h : s.size ≤ maxLen) : keyOf Yba.prog 9 (.string s) = some (key s) := WideMaps.keyOf_string_mk Yba.underlying9 h
theorem isKey (s : ByteArray) : WideAt.IsKeyLit (key s) := by unfold key; trivial

/-- The map's keys are those that P holds of; every element is OrgPermissions{}. -/
structure KeysAre (D : DataW Value) (P : ByteArray → Prop) : Prop where
  has : ∀ s, Maps.has D (key s) = true ↔ P s
  at_ : ∀ s z, P s → D.atKey (key s) z = .held Z

theorem keys_none : KeysAre (.map []) (fun _ => False) := ⟨fun s => by simp [Maps.has], fun s z h => h.elim⟩
theorem keys_put {D : DataW Value} {P : ByteArray → Prop} (h : KeysAre D P) (hD : IsMap D) (k : ByteArray) : KeysAre (D.put (key k) (.held Z)) (fun s => P s ∨ k = s) := by
  refine ⟨fun s => ?_, fun s z hs => ?_⟩
  · by_cases e : k = s
    · subst e
      simp [has_put_same hD (isKey k)]
    · rw [has_put_other (fun h => e (key_inj h).symm), h.has]
      simp [e]
  · by_cases e : k = s
    · subst e
      exact atKey_put_same hD (isKey k) _ _
    · rw [atKey_put_other (fun h => e (key_inj h).symm)]
      exact h.at_ s z (hs.resolve_right e)
theorem keys_congr {D : DataW Value} {P Q : ByteArray → Prop} (h : KeysAre D P) (e : ∀ s, P s ↔ Q s) : KeysAre D Q := ⟨fun s => (h.has s).trans (e s), fun s z hs => h.at_ s z ((e s).2 hs)⟩

/-- Role j's map: nil where there was no list; else its keys are the list's. -/
def RoleOk (w : World) (R : Lists) (j : Nat) : Option Nat → Prop
  | none => R.L j = 0
  | some m => ∃ D, w.ownsMap Yba.prog 9 anyElem m 256 D ∧ KeysAre D (R.Has j)

theorem owns_map_block {w w' : World} {m n : Nat} {D : DataW Value} (h : w.ownsMap Yba.prog 9 anyElem m n D) (hb : w'.heap[m]? = w.heap[m]?) : w'.ownsMap Yba.prog 9 anyElem m n D := by
  obtain ⟨es, clock, h1, h2⟩ := h
  exact ⟨es, clock, by rw [hb]; exact h1, h2⟩
theorem RoleOk.lt {w : World} {R : Lists} {j m : Nat} (h : RoleOk w R j (some m)) : m < w.heap.size := by
  obtain ⟨D, h, _⟩ := h
  exact h.lt
theorem RoleOk.isMap {w : World} {R : Lists} {j m : Nat} (h : RoleOk w R j (some m)) : ∃ es clock, w.heap[m]? = some (.map es clock) := by
  obtain ⟨D, ⟨es, clock, h, _⟩, _⟩ := h
  exact ⟨es, clock, h⟩
theorem RoleOk.kept {w w' : World} {R : Lists} {j : Nat} {o : Option Nat} (h : RoleOk w R j o) (hb : ∀ m, o = some m → w'.heap[m]? = w.heap[m]?) : RoleOk w' R j o := by
  cases o with
  | none => exact h
  | some m =>
    obtain ⟨D, h1, h2⟩ := h
    exact ⟨D, owns_map_block h1 (hb m rfl), h2⟩
theorem RoleOk.below {w w' : World} {R : Lists} {j : Nat} {o : Option Nat} (h : RoleOk w R j o) (hb : Below w.heap.size w w') : RoleOk w' R j o :=
  h.kept fun m e => by subst e; exact hb.block m h.lt

/-- A role's three cells. -/
def role (o : Option Nat) : List Value := [.slice none 0 0, .slice none 0 0, .map o]
def rcells (ms : List (Option Nat)) : List Value := ms.flatMap role
theorem rcells_snoc (ms : List (Option Nat)) (o : Option Nat) : rcells (ms ++ [o]) = rcells ms ++ role o := by simp [rcells]
theorem role_one (o : Option Nat) : ∀ u ∈ role o, u.oneCell' = true := by
  intro u hu
  simp [role] at hu
  rcases hu with rfl | rfl <;> rfl
theorem rcells_at : ∀ (ms : List (Option Nat)) (j i : Nat), j < ms.length → i < 3 → (rcells ms)[j * 3 + i]? = (role (ms.getD j none))[i]?
  | m :: ms, 0, i, _, hi => by
    have e : rcells (m :: ms) = role m ++ rcells ms := by simp [rcells]
    rw [e, Nat.zero_mul, Nat.zero_add, List.getElem?_append_left (by simpa [role] using hi)]
    rfl
  | m :: ms, j + 1, i, hj, hi => by
    have e : rcells (m :: ms) = role m ++ rcells ms := by simp [rcells]
    have l : (role m).length = 3 := rfl
    rw [e, List.getElem?_append_right (by rw [l]; omega), l, show (j + 1) * 3 + i - 3 = j * 3 + i by omega, rcells_at ms j i (by simpa using hj) hi]
    simp

/-- The subject's four cells. -/
abbrev subj (v : Value) : Array Value := #[.string ⟨#[]⟩, v, .slice none 0 0, .pointer none]

/-- What the outer loop keeps. 'w': the world in which the call began: its first block is the result's, its second the subject's. -/
structure Inv (w wr : World) (R : Lists) (k : Nat) (ms : List (Option Nat)) (va : Option Addr) (vc : Nat) : Prop where
  res : wr.heap[w.heap.size]? = some (.cells (subj (.slice none 0 0)) 29 (0, 0))
  sub : wr.heap[w.heap.size + 1]? = some (.cells (subj (.slice va k vc)) 29 (0, 0))
  own : wr.ownsRow (w.heap.size + 2) 43 3 (.slice va k vc) k (rcells ms)
  len : ms.length = k
  maps : ∀ j, j < k → RoleOk wr R j (ms.getD j none)
  below : Below w.heap.size w wr
  size : w.heap.size + 2 ≤ wr.heap.size

theorem Inv.start (w : World) (R : Lists) : Inv w ((w.alloc (.cells (subj (.slice none 0 0)) 29)).alloc (.cells (subj (.slice none 0 0)) 29)) R 0 [] none 0 := by
  refine ⟨heap_alloc2_old _ _ _, heap_alloc2_new _ _ _, World.ownsRow_nil _ _ _ _, rfl, fun j h => by omega, ((Below.refl _ _).alloc (Nat.le_refl _) _).alloc (by simp) _, by simp⟩

theorem row_is_cells {w : World} {base e size n : Nat} {v : Value} {xs : List Value} (h : w.ownsRow base e size v n xs) {g : Nat} (hg : v.ownBlock = some g) : base ≤ g ∧ ∃ cur, w.heap[g]? = some (.cells cur e (0, 0)) := by
  rcases h.2 with ⟨rfl, _⟩ | ⟨g', cap, cur, rfl, hb, hh, _⟩
  · simp [Value.ownBlock] at hg
  · simp [Value.ownBlock] at hg
    subst hg
    exact ⟨hb, cur, hh⟩

/-- A role appended to the subject's. -/
theorem Inv.step {w wr wx w3 : World} {R : Lists} {k : Nat} {ms : List (Option Nat)} {va : Option Addr} {vc g cap : Nat} {o : Option Nat} {e : Obj} (h : Inv w wr R k ms va vc) (hx : Below wr.heap.size wr wx) (ho : RoleOk wx R k o)
    (hown : w3.ownsRow (w.heap.size + 2) 43 3 (.slice (some ⟨g, 0, none⟩) (k + 1) cap) (k + 1) (rcells ms ++ role o)) (hg : (wx.alloc e).grownBy w3 (Value.slice va k vc).ownBlock) :
    Inv w (w3.setCell ⟨w.heap.size + 1, 1, none⟩ (.slice (some ⟨g, 0, none⟩) (k + 1) cap)) R (k + 1) (ms ++ [o]) (some ⟨g, 0, none⟩) cap := by
  have s0 := h.size
  have s1 := hx.size
  have s2 := hg.size
  simp only [World.size_alloc] at s2
  -- a block of wr that is not the row is in w3 as it was
  have keep : ∀ b, b < wr.heap.size → some b ≠ (Value.slice va k vc).ownBlock → w3.heap[b]? = wr.heap[b]? := fun b hb hne => by
    rw [hg.block b (by simp; omega) hne, Below.heap_alloc _ _ _ (by omega), hx.block b hb]
  have low : ∀ b, b < w.heap.size + 2 → some b ≠ (Value.slice va k vc).ownBlock := fun b hb e => by
    have := (row_is_cells h.own e.symm).1
    omega
  have hgw : w.heap.size + 2 ≤ g := by
    rcases hown.2 with ⟨h0, _⟩ | ⟨g', cap', cur, h0, hb, _⟩
    · simp at h0
    · simp at h0; rw [h0.1]; exact hb
  -- no map is the row
  have hmap : ∀ (wy : World) (j : Nat) (m : Nat), Below wr.heap.size wr wy → RoleOk wy R j (some m) → m < wy.heap.size → some m ≠ (Value.slice va k vc).ownBlock := fun wy j m hb hr hm e => by
    obtain ⟨_, cur, hc⟩ := row_is_cells h.own e.symm
    obtain ⟨es, clock, hm'⟩ := hr.isMap
    rw [hb.block m (lt_of_block hc), hc] at hm'
    simp at hm'
  have hsub3 : w3.heap[w.heap.size + 1]? = some (.cells (subj (.slice va k vc)) 29 (0, 0)) := (keep _ (by omega) (low _ (by omega))).trans h.sub
  have notS : ∀ m es clock, w3.heap[m]? = some (.map es clock) → m ≠ w.heap.size + 1 := fun m es clock hm e => by
    subst e
    rw [hsub3] at hm
    simp at hm
  have ok : ∀ (wy : World) (j : Nat) (o' : Option Nat), Below wr.heap.size wr wy → (∀ m, o' = some m → w3.heap[m]? = wy.heap[m]?) → RoleOk wy R j o' → RoleOk (w3.setCell ⟨w.heap.size + 1, 1, none⟩ (.slice (some ⟨g, 0, none⟩) (k + 1) cap)) R j o' := fun wy j o' hb hsame hr => by
    refine hr.kept fun m hm => ?_
    subst hm
    obtain ⟨es, clock, hm'⟩ := hr.isMap
    rw [Below.heap_setCell _ _ _ _ (by simpa using notS m es clock (by rw [hsame m rfl]; exact hm')), hsame m rfl]
  refine ⟨?_, ?_, ?_, ?_, ?_, ?_, ?_⟩
  · rw [Below.heap_setCell _ _ _ _ (by simp), keep _ (by omega) (low _ (by omega))]
    exact h.res
  · rw [heap_setCell_same _ _ _ _ _ _ hsub3]
    rfl
  · rw [rcells_snoc]
    exact ownsRow_setCell_other hown (by simp [Value.ownBlock]; omega) _
  · simp [h.len]
  · intro j hj
    by_cases e : j = k
    · subst e
      have e1 : (ms ++ [o]).getD j none = o := by simp [List.getD, h.len]
      rw [e1]
      refine ok wx j o hx (fun m hm => ?_) ho
      subst hm
      have hlt := ho.lt
      rw [hg.block m (by simp; omega) (hmap wx j m hx ho hlt), Below.heap_alloc _ _ _ hlt]
    · have hjk : j < k := by omega
      have e1 : (ms ++ [o]).getD j none = ms.getD j none := by
        have := h.len
        simp [List.getD, List.getElem?_append_left (show j < ms.length by omega)]
      rw [e1]
      refine ok wr j _ (Below.refl _ _) (fun m hm => ?_) (h.maps j hjk)
      have hr := h.maps j hjk
      rw [hm] at hr
      exact keep m hr.lt (hmap wr j m (Below.refl _ _) hr hr.lt)
  · refine Below.setCell ?_ (p := ⟨w.heap.size + 1, 1, none⟩) (by simp) _
    refine ((h.below.trans (hx.mono h.below.size)).alloc (by omega) e).grown hg (by simp; omega) (fun b hb => ?_)
    have := (row_is_cells h.own hb).1
    omega
  · simp [World.setCell]
    omega
end Go.Proofs.Ybulkbmya.laws
