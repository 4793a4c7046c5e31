/- tiergate.LawS3185BReads: the faults that the law reckons. -/
import Derived.Test.YbulkbmyaFmtBN
namespace Go.Proofs.YbulkbmyaFmt.lawS3185BReads
open Go.RowKit Go.Maps Go.Extern.Stop Go.Stop Go.Extern
open Go.Proofs.YbulkbmyaFmt.lawS3185AReads (mpath nil_of_isEmpty anyElem law9 key key_inj key_of isKey)
set_option linter.unusedVariables false

theorem neq49n (w : World) : (binOp .neq 49 (.map none) (.map none)).run Ybaf.prog w = .ok (.bool false) w := by kernel_rfl
theorem neq36n (w : World) : (binOp .neq 36 (.slice none 0 0) (.slice none 0 0)).run Ybaf.prog w = .ok (.bool false) w := by kernel_rfl
theorem eql36s (a : Addr) (n c : Nat) (w : World) : (binOp .eql 36 (.slice (some a) n c) (.slice none 0 0)).run Ybaf.prog w = .ok (.bool false) w := by kernel_rfl
theorem zero36 (w : World) : (zeroValue 36).run Ybaf.prog w = .ok (.slice none 0 0) w := by kernel_rfl

theorem look49 {w : World} {m nn : Nat} {DM : DataW Value} {name : ByteArray} {x : Value} (hown : w.ownsMap Ybaf.prog 9 anyElem m nn DM) (hs : name.size ≤ maxLen) (hh : Maps.has DM (key name) = true) (hat : ∀ z, DM.atKey (key name) z = .held x) :
    (Instr.lookup 49 (.map (some m)) (.string name) true).run Ybaf.prog w = .ok (.tuple #[x, .bool true]) w := by
  obtain ⟨v, ps, hrun, hv⟩ := hown.look_ok law9 Ybaf.underlying49 (zero36 w) (zd := .held (.slice none 0 0)) (zp := []) rfl (key_of name hs)
  rw [hat] at hv
  simp only [anyElem, Option.some.injEq, Prod.mk.injEq, DataW.held.injEq] at hv
  rw [hrun, hv.1, hh]

theorem row_slice {w : World} {b e s k : Nat} {v : Value} {ys : List Value} (h : w.ownsRow b e s v k ys) : ∃ a c, v = .slice a k c := by
  rcases h.2 with ⟨rfl, rfl⟩ | ⟨g, cap, cur, rfl, _⟩
  · exact ⟨_, _, rfl⟩
  · exact ⟨_, _, rfl⟩
theorem row_slice_pos {w : World} {b e s k : Nat} {v : Value} {ys : List Value} (h : w.ownsRow b e s v k ys) (hk : 0 < k) : ∃ g c, v = .slice (some ⟨g, 0, none⟩) k c := by
  rcases h.2 with ⟨rfl, rfl⟩ | ⟨g, cap, cur, rfl, _⟩
  · omega
  · exact ⟨_, _, rfl⟩

theorem getD_mem {l : List Nat} {t : Nat} (ht : t < l.length) : l.getD t 0 ∈ l := by
  rw [List.getD_eq_getElem?_getD, List.getElem?_eq_getElem ht]
  exact List.getElem_mem _
theorem idx_cell {w : World} {b g c t : Nat} {ix : List Nat} (h : w.ownsRow b 3 1 (.slice (some ⟨g, 0, none⟩) ix.length c) ix.length (ix.map fun i : Nat => Value.int .i64 (i : Int))) (ht : t < ix.length) : w.cell? ⟨g, t, none⟩ = some (.int .i64 ((ix.getD t 0 : Nat) : Int)) := by
  rw [h.cellAt t (by omega), List.getElem?_map, List.getElem?_eq_getElem ht, List.getD_eq_getElem?_getD, List.getElem?_eq_getElem ht]
  rfl
theorem seen_cell {w : World} {b g c t : Nat} {E : Ents} {ix : List Nat} (h : w.ownsRow b 9 1 (.slice (some ⟨g, 0, none⟩) ix.length c) ix.length (ix.map fun i => Value.string (E.K i))) (ht : t < ix.length) : w.cell? ⟨g, t, none⟩ = some (.string (E.K (ix.getD t 0))) := by
  rw [h.cellAt t (by omega), List.getElem?_map, List.getElem?_eq_getElem ht, List.getD_eq_getElem?_getD, List.getElem?_eq_getElem ht]
  rfl

/-- The faults of the first t entries taken. -/
def nfOf (D : DataW Value) (E : Ents) (ix : List Nat) (t : Nat) : Nat := ((ix.take t).map fun i => rc D (E.K i) + jc D (E.jv i)).sum
theorem nfOf_succ {D : DataW Value} {E : Ents} {ix : List Nat} {t : Nat} (ht : t < ix.length) : nfOf D E ix (t + 1) = nfOf D E ix t + (rc D (E.K (ix.getD t 0)) + jc D (E.jv (ix.getD t 0))) := by
  unfold nfOf
  rw [List.take_add_one, List.getElem?_eq_getElem ht, List.getD_eq_getElem?_getD, List.getElem?_eq_getElem ht, List.map_append, List.sum_append]
  simp only [Option.toList, List.map_cons, List.map_nil, List.sum_cons, List.sum_nil, Option.getD_some, Nat.add_zero]
theorem nfOf_le {D : DataW Value} {E : Ents} {ix : List Nat} (h : ∀ i ∈ ix, E.el i ≤ 300) (t : Nat) (ht : t ≤ ix.length) : nfOf D E ix t ≤ t * 301 := by
  induction t with
  | zero => simp [nfOf]
  | succ t ih =>
    have h1 := ih (by omega)
    rw [nfOf_succ (by omega)]
    have h2 := rc_le D (E.K (ix.getD t 0))
    have h3 := jc_le (D := D) (Ents.jv_short (h _ (getD_mem (show t < ix.length by omega))))
    omega
theorem nfOf_all {D : DataW Value} {E : Ents} {ix : List Nat} (hnd : (ix.map fun i => (E.K i).data.toList).Nodup) : nfOf D E ix ix.length = tot D (jof E ix) (ix.map fun i => (E.K i).data.toList) := by
  unfold nfOf tot
  rw [List.take_length, List.map_map]
  congr 1
  refine List.map_congr_left fun i hi => ?_
  show _ = kc D (jof E ix) ⟨(E.K i).data.toList.toArray⟩
  rw [show (⟨(E.K i).data.toList.toArray⟩ : ByteArray) = E.K i by simp]
  unfold kc
  rw [jof_mem hnd hi]

/-- The first r elements of entry i. -/
def Ents.first (E : Ents) (i r : Nat) : List (Option ByteArray) := (E.list i).take r
theorem first_all (E : Ents) (i : Nat) : E.first i (E.el i) = E.list i := by
  unfold Ents.first
  rw [List.take_of_length_le (by simp [Ents.list])]
theorem first_succ {E : Ents} {i r : Nat} (h : r < E.el i) : E.first i (r + 1) = E.first i r ++ [E.elemOf i r] := by
  unfold Ents.first
  rw [List.take_add_one]
  simp [Ents.list, h]
theorem first_zero (E : Ents) (i : Nat) : E.first i 0 = [] := rfl
theorem first_le (E : Ents) (i r : Nat) : ((E.first i r).filterMap id).length ≤ r := by
  have h1 := List.length_filterMap_le id (E.first i r)
  have h2 : (E.first i r).length ≤ r := by simp [Ents.first]; omega
  omega
theorem jfirst_le (D : DataW Value) (E : Ents) (i r : Nat) : jcL D (E.first i r) ≤ r := by
  have h1 := jcL_le D (E.first i r)
  have h2 : (E.first i r).length ≤ r := by simp [Ents.first]; omega
  omega

/-- Behind the reckoning. -/
structure Fin (mode : Int) (path : ByteArray) (wc : World) (p : Nat) (t : Value) (wy : World) : Prop where
  below : Below wc.heap.size wc wy
  res : ∃ (nf : Nat) (ys : List Value), t = .int .i64 nf ∧ nf ≤ 1000000 ∧ Flt wc.heap.size wc.heap.size wy (p + nf) (pri p ++ ys) ∧ (mode = 1 → nf = 1 ∧ ∃ q, ys = [.string (mpath path ASG), .string q])

theorem pri_length (p : Nat) : (pri p).length = p * 2 := by
  induction p with
  | zero => rfl
  | succ p ih => rw [pri, List.length_append, ih]; simp; omega
theorem pri_get (p i : Nat) (h : i < p * 2) : (pri p)[i]? = some (.string PR) := by
  induction p with
  | zero => omega
  | succ p ih =>
    rw [pri]
    by_cases e : i < p * 2
    · rw [List.getElem?_append_left (by rw [pri_length]; exact e)]
      exact ih e
    · rw [List.getElem?_append_right (by rw [pri_length]; omega), pri_length]
      rcases (show i = p * 2 ∨ i = p * 2 + 1 by omega) with rfl | rfl
      · simp
      · simp
/-- ".assign". -/
abbrev DASG : ByteArray := ⟨#[46, 97, 115, 115, 105, 103, 110]⟩
theorem mp_ne {p : ByteArray} (h : p.toList.isEmpty = false) : mpath p ASG = p ++ DASG := by
  unfold mpath
  rw [if_neg (by rw [h]; decide), ByteArray.append_assoc]
  rfl
theorem mp_nil : mpath ⟨#[]⟩ ASG = ASG := by
  unfold mpath
  rw [if_pos (by simp [ByteArray.toList_eq])]
theorem rc_in {w wr : World} {N : List ByteArray} {D : DataW Value} {k : Nat} (h : RInv w N k D wr) (hk : N.length = k) {s : ByteArray} (hs : s ∈ N) : rc D s = 0 := by
  unfold rc
  have := h.has s
  rw [← hk, List.take_length] at this
  rw [if_pos (this.2 hs)]
theorem rc_out {w wr : World} {N : List ByteArray} {D : DataW Value} {k : Nat} (h : RInv w N k D wr) (hk : N.length = k) {s : ByteArray} (hs : s ∉ N) : rc D s = 1 := by
  unfold rc
  have := h.has s
  rw [← hk, List.take_length] at this
  rw [if_neg (fun e => hs (this.1 e))]
end Go.Proofs.YbulkbmyaFmt.lawS3185BReads
