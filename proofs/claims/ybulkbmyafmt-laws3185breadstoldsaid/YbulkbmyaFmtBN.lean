/- tiergate.LawS3185BReads: what stands behind readAssign. -/
import Derived.Test.YbulkbmyaFmtBM
namespace Go.Proofs.YbulkbmyaFmt.lawS3185BReads
open Go.RowKit Go.Maps Go.Extern.Stop Go.Stop Go.Extern
open Go.Proofs.YbulkbmyaFmt.lawS3185AReads (mpath nil_of_isEmpty anyElem law9 key key_inj key_of isKey)
set_option linter.unusedVariables false

theorem ix_perm {w : World} {mo nn : Nat} {DM : DataW Value} {l : List (List UInt8)} (hM : w.ownsMap Ybaf.prog 9 anyElem mo nn DM) (hc : Collected DM (fun _ => false) l) : l.Perm (strKeys DM) := hc.perm hM law9 Ybaf.underlying9 (fun _ => rfl)

theorem obj_vals {w wc wr : World} {E : Ents} {mo nn : Nat} {DM : DataW Value} {ix : List Nat} (hM : wc.ownsMap Ybaf.prog 9 anyElem mo nn DM) (hc : Collected DM (fun _ => false) (ix.map fun i => (E.K i).data.toList)) (hat : ∀ i ∈ ix, ∃ x, (∀ z, DM.atKey (key (E.K i)) z = .held x) ∧ Lies wc x (E.jv i)) (hlt : ∀ i ∈ ix, i < E.n) (hel : ∀ j, j < E.n → E.el j ≤ 300) (hE : E.In w) (hb : Below wc.heap.size wc wr) :
    ∀ s : ByteArray, s.data.toList ∈ strKeys DM → short (jof E ix s) ∧ s.size ≤ 1000000000000000 ∧ Maps.has DM (key s) = true ∧ ∃ x, (∀ z, DM.atKey (key s) z = .held x) ∧ Lies wr x (jof E ix s) := by
  intro s hs
  have hs' := (ix_perm hM hc).mem_iff.2 hs
  obtain ⟨i, hi, e⟩ := List.mem_map.1 hs'
  obtain rfl : E.K i = s := ByteArray.ext (Array.toList_inj.1 e)
  rw [jof_mem hc.1 hi]
  obtain ⟨x, h1, h2⟩ := hat i hi
  have hk := hE.ksz i (hlt i hi)
  refine ⟨Ents.jv_short (hel i (hlt i hi)), by omega, ?_, x, h1, h2.below hb⟩
  have := (hc.2 _).1 hs'
  exact this.1

section
variable {w wc wr wx : World} {E : Ents} {N : List ByteArray} {D : DataW Value} {path : ByteArray} {p : Nat} {vs vi : Value}

theorem Got.one (hb : Below wc.heap.size wc wr) (hf : ∃ q, Flt wc.heap.size wc.heap.size wx (p + 1) (pri p ++ [.string (mpath path ASG), .string q])) (hk : KF wc.heap.size wc.heap.size wr wx) : Got w E N 1 D path wc wr p vs vi (.map none) wx :=
  ⟨hb.trans (hk.below (Nat.le_refl _) hb.size), hk, .inr (.inl ⟨rfl, rfl, hf⟩)⟩

theorem Got.bare {DM : DataW Value} {ix : List Nat} (hb : Below wc.heap.size wc wr) (hf : Flt wc.heap.size wc.heap.size wr p (pri p)) (hbx : Below wr.heap.size wr wx) (hc : Collected DM (fun _ => false) (ix.map fun i => (E.K i).data.toList)) (hp : (ix.map fun i => (E.K i).data.toList).Perm (strKeys DM)) (hlt : ∀ i ∈ ix, i < E.n) (hl : ix.length ≤ 300)
    (hs : wc.ownsRow w.heap.size 9 1 vs ix.length (ix.map fun i => Value.string (E.K i))) (hi : wc.ownsRow w.heap.size 3 1 vi ix.length (ix.map fun i : Nat => Value.int .i64 (i : Int))) (h0 : ix = []) : Got w E N 2 D path wc wr p vs vi (.map none) wx :=
  have hbb : Below wc.heap.size wc wx := hb.trans (hbx.mono hb.size)
  ⟨hbb, KF.of_below hbx, .inr (.inr ⟨rfl, DM, ix, hc.1, hp, hlt, hl, row_below hs hbb, row_below hi hbb, .inl ⟨h0, rfl, hf.below hbx⟩⟩)⟩

theorem Got.laden {DM : DataW Value} {ix : List Nat} {m' : Nat} {D' : DataW Value} (hb : Below wc.heap.size wc wr) (hf : Flt wc.heap.size wc.heap.size wr p (pri p)) (hk : KF wc.heap.size wc.heap.size wr wx) (hc : Collected DM (fun _ => false) (ix.map fun i => (E.K i).data.toList)) (hp : (ix.map fun i => (E.K i).data.toList).Perm (strKeys DM)) (hlt : ∀ i ∈ ix, i < E.n) (hl : ix.length ≤ 300)
    (hs : wc.ownsRow w.heap.size 9 1 vs ix.length (ix.map fun i => Value.string (E.K i))) (hi : wc.ownsRow w.heap.size 3 1 vi ix.length (ix.map fun i : Nat => Value.int .i64 (i : Int))) (h0 : ix ≠ [])
    (hO : MapOut wx (jof E ix) DM m' D') (hys : ∃ ys, Flt wc.heap.size wc.heap.size wx (p + tot D (jof E ix) (strKeys DM)) (pri p ++ ys)) : Got w E N 2 D path wc wr p vs vi (.map (some m')) wx :=
  have hbb : Below wc.heap.size wc wx := hb.trans (hk.below (Nat.le_refl _) hb.size)
  ⟨hbb, hk, .inr (.inr ⟨rfl, DM, ix, hc.1, hp, hlt, hl, row_below hs hbb, row_below hi hbb, .inr ⟨h0, m', D', rfl, hO, hys⟩⟩)⟩
end
end Go.Proofs.YbulkbmyaFmt.lawS3185BReads
