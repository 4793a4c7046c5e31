/- tiergate.LawS3185AReads: (*walker).str and requiredStr. -/
import Derived.Test.YbulkbmyaFmtAB
namespace Go.Proofs.YbulkbmyaFmt.lawS3185AReads
open Go.RowKit Go.Extern.Stop Go.Stop Go.Extern

/-- What a look into the map that lies in block m as 'o' gives at a name. -/
def Looks (m : Nat) (o : Obj) (name : ByteArray) (x : Value) (b : Bool) : Prop :=
  ∀ w : World, w.heap[m]? = some o → (Instr.lookup 26 (.map (some m)) (.string name) true).run Ybaf.prog w = .ok (.tuple #[x, .bool b]) w

/-- Of what was there nothing has turned but block R and the row. -/
structure Turned (R : Nat) (row : Option Nat) (w w' : World) : Prop where
  os : w'.os = w.os
  tape : w'.tape = w.tape
  output : w'.output = w.output
  size : w.heap.size ≤ w'.heap.size
  block : ∀ k, k < w.heap.size → k ≠ R → some k ≠ row → w'.heap[k]? = w.heap[k]?

theorem turned_of {w w1 : World} {R : Nat} {row : Option Nat} (h : w.grownBy w1 row) (u : Value) : Turned R row w (w1.setCell ⟨R, 0, none⟩ u) :=
  ⟨h.os, h.tape, h.output, by simpa [World.setCell] using h.size, fun k hk hR hr => by rw [Below.heap_setCell _ _ _ _ (by simpa using hR)]; exact h.block k hk hr⟩

theorem str_miss (R m : Nat) (o : Obj) (p n : ByteArray) (w : World) (hm : w.heap[m]? = some o) (hl : Looks m o n .nilIface false) :
    Calls Ybaf.prog 12 #[.pointer (some ⟨R, 0, none⟩), .map (some m), .string p, .string n] w fun e w' => e = .returned (.string ⟨#[]⟩) ∧ w = w' := by
  have hrun := hl w hm
  clear hl hm
  go_enter Ybaf.func12, Ybaf.ntmps12
  go_wp2
  go_ret
  exact ⟨rfl, rfl⟩

theorem str_hit (R m : Nat) (o : Obj) (p n s : ByteArray) (w : World) (hm : w.heap[m]? = some o) (hl : Looks m o n (.iface 9 (.string s)) true) :
    Calls Ybaf.prog 12 #[.pointer (some ⟨R, 0, none⟩), .map (some m), .string p, .string n] w fun e w' => e = .returned (.string s) ∧ w = w' := by
  have hrun := hl w hm
  have ha := as_t_9
  clear hl hm
  go_enter Ybaf.func12, Ybaf.ntmps12
  go_wp2
  go_ret
  exact ⟨rfl, rfl⟩

theorem odd_string (x : Value) (hx : Odd x) (w : World) : (Instr.typeAssert x 20 9 true).run Ybaf.prog w = .ok (.tuple #[.string ⟨#[]⟩, .bool false]) w := by
  rcases hx with ⟨b, rfl⟩ | ⟨a, n, c, rfl⟩ | ⟨r, rfl⟩ | rfl
  · exact as_b_9 b w
  · exact as_s_9 a n c w
  · exact as_m_9 r w
  · exact as_z_9 w

set_option maxRecDepth 100000 in
theorem str_odd (F : Interp) (base R m k : Nat) (o : Obj) (v x : Value) (xs : List Value) (p n : ByteArray) (w : World) (hF : F.answers w.tape) (hk : k ≤ 100000000) (hbase : base ≤ w.heap.size) (hR : w.cell? ⟨R, 0, none⟩ = some v) (hRf : w.frozen? ⟨R, 0, none⟩ = false) (hne : some R ≠ v.ownBlock)
    (hown : w.ownsRow base 33 2 v k xs) (hp : p.size ≤ 140737488355328) (hn : n.size ≤ 140737488355328) (hx : Odd x) (hm : w.heap[m]? = some o) (hl : Looks m o n x true) :
    Calls Ybaf.prog 12 #[.pointer (some ⟨R, 0, none⟩), .map (some m), .string p, .string n] w fun e w' =>
      ∃ g cap w1 q, e = .returned (.string ⟨#[]⟩) ∧ w1.ownsRow base 33 2 (.slice (some ⟨g, 0, none⟩) (k + 1) cap) (k + 1) (xs ++ [.string (mpath p n), .string q]) ∧ w.grownBy w1 v.ownBlock ∧ (v.ownBlock = some g ∨ w.heap.size ≤ g) ∧
        w' = w1.setCell ⟨R, 0, none⟩ (.slice (some ⟨g, 0, none⟩) (k + 1) cap) := by
  have hrun := hl w hm
  have ha := odd_string x hx
  have HX : Hid (Odd x) := hx
  have HO : Hid (w.ownsRow base 33 2 v k xs) := hown
  have HN : Hid (some R ≠ v.ownBlock) := hne
  have HF : Hid (F.answers w.tape) := hF
  clear hl hm hx hown hne hF
  go_enter Ybaf.func12, Ybaf.ntmps12
  go_wp2_with (first
    | (go_at_call 11; refine (member_any p n _ hp hn).mono ?_; rintro e w' ⟨rfl, rfl⟩)
    | (go_at_call 18; refine (wrong_any F base R k v x xs (mpath p n) w HF.out hk hbase hR hRf HN.out HO.out _ HX.out).mono ?_; rintro e w2 ⟨g, cap, w1, q, rfl, ho, hg, hl, rfl⟩))
  go_ret
  exact ⟨g, cap, w1, q, rfl, ho, hg, hl, rfl⟩

/-- The map's block behind a recorded fault. -/
theorem map_far {w w1 : World} {R m base k : Nat} {v u : Value} {xs : List Value} {es : Array MapEntry} {clock : Nat} (hm : w.heap[m]? = some (.map es clock)) (hR : (w.cell? ⟨R, 0, none⟩).isSome = true) (hown : w.ownsRow base 33 2 v k xs) (h : w.grownBy w1 v.ownBlock) :
    (w1.setCell ⟨R, 0, none⟩ u).heap[m]? = some (.map es clock) := by
  have hmR : m ≠ R := by
    rintro rfl
    simp [World.cell?, hm] at hR
  have hmv : some m ≠ v.ownBlock := by
    intro e
    rcases hown.2 with ⟨rfl, _⟩ | ⟨g, cap, cur, rfl, _, hh, _⟩
    · simp [Value.ownBlock] at e
    · simp [Value.ownBlock] at e
      subst e
      rw [hm] at hh
      simp at hh
  rw [Below.heap_setCell _ _ _ _ (by simpa using hmR), h.block m (lt_of_block hm) hmv]
  exact hm

set_option maxRecDepth 100000 in
theorem req_miss (base R m k : Nat) (es : Array MapEntry) (clock : Nat) (v : Value) (xs : List Value) (p n : ByteArray) (w : World) (hk : k ≤ 100000000) (hbase : base ≤ w.heap.size) (hR : w.cell? ⟨R, 0, none⟩ = some v) (hRf : w.frozen? ⟨R, 0, none⟩ = false) (hne : some R ≠ v.ownBlock)
    (hown : w.ownsRow base 33 2 v k xs) (hp : p.size ≤ 140737488355328) (hn : n.size ≤ 140737488355328) (hm : w.heap[m]? = some (.map es clock)) (hl : Looks m (.map es clock) n .nilIface false) :
    Calls Ybaf.prog 5 #[.pointer (some ⟨R, 0, none⟩), .map (some m), .string p, .string n] w fun e w' =>
      ∃ g cap w1, e = .returned (.string ⟨#[]⟩) ∧ w1.ownsRow base 33 2 (.slice (some ⟨g, 0, none⟩) (k + 1) cap) (k + 1) (xs ++ [.string (mpath p n), .string ⟨#[109, 105, 115, 115, 105, 110, 103]⟩]) ∧ w.grownBy w1 v.ownBlock ∧ (v.ownBlock = some g ∨ w.heap.size ≤ g) ∧
        w' = w1.setCell ⟨R, 0, none⟩ (.slice (some ⟨g, 0, none⟩) (k + 1) cap) := by
  have hrun := hl w hm
  have HL : Hid (Looks m (.map es clock) n .nilIface false) := hl
  have HM : Hid (w.heap[m]? = some (.map es clock)) := hm
  have HO : Hid (w.ownsRow base 33 2 v k xs) := hown
  have HN : Hid (some R ≠ v.ownBlock) := hne
  clear hl hm hown hne
  go_enter Ybaf.func5, Ybaf.ntmps5
  go_wp2_with (first
    | (go_at_call 11; refine (member_any p n _ hp hn).mono ?_; rintro e w' ⟨rfl, rfl⟩)
    | (go_at_call 10; refine (fault_any base R k v xs (mpath p n) _ w (by omega) hbase hR hRf HN.out HO.out).mono ?_; rintro e w2 ⟨g, cap, w1, rfl, ho, hg, hlies, rfl⟩)
    | (go_at_call 12; refine (str_miss R m (.map es clock) p n _ (map_far HM.out (by rw [hR]; rfl) HO.out hg) HL.out).mono ?_; rintro e w' ⟨rfl, rfl⟩))
  go_ret
  exact ⟨g, cap, w1, rfl, ho, hg, hlies, rfl⟩

set_option maxRecDepth 100000 in
theorem req_hit (R m : Nat) (o : Obj) (p n s : ByteArray) (w : World) (hm : w.heap[m]? = some o) (hl : Looks m o n (.iface 9 (.string s)) true) :
    Calls Ybaf.prog 5 #[.pointer (some ⟨R, 0, none⟩), .map (some m), .string p, .string n] w fun e w' => e = .returned (.string s) ∧ w = w' := by
  have hrun := hl w hm
  have HL : Hid (Looks m o n (.iface 9 (.string s)) true) := hl
  have HM : Hid (w.heap[m]? = some o) := hm
  clear hl hm
  go_enter Ybaf.func5, Ybaf.ntmps5
  go_wp2_with (go_at_call 12; refine (str_hit R m o p n s _ HM.out HL.out).mono ?_; rintro e w' ⟨rfl, rfl⟩)
  go_ret
  exact ⟨rfl, rfl⟩

set_option maxRecDepth 100000 in
theorem req_odd (F : Interp) (base R m k : Nat) (o : Obj) (v x : Value) (xs : List Value) (p n : ByteArray) (w : World) (hF : F.answers w.tape) (hk : k ≤ 100000000) (hbase : base ≤ w.heap.size) (hR : w.cell? ⟨R, 0, none⟩ = some v) (hRf : w.frozen? ⟨R, 0, none⟩ = false) (hne : some R ≠ v.ownBlock)
    (hown : w.ownsRow base 33 2 v k xs) (hp : p.size ≤ 140737488355328) (hn : n.size ≤ 140737488355328) (hx : Odd x) (hm : w.heap[m]? = some o) (hl : Looks m o n x true) :
    Calls Ybaf.prog 5 #[.pointer (some ⟨R, 0, none⟩), .map (some m), .string p, .string n] w fun e w' =>
      ∃ g cap w1 q, e = .returned (.string ⟨#[]⟩) ∧ w1.ownsRow base 33 2 (.slice (some ⟨g, 0, none⟩) (k + 1) cap) (k + 1) (xs ++ [.string (mpath p n), .string q]) ∧ w.grownBy w1 v.ownBlock ∧ (v.ownBlock = some g ∨ w.heap.size ≤ g) ∧
        w' = w1.setCell ⟨R, 0, none⟩ (.slice (some ⟨g, 0, none⟩) (k + 1) cap) := by
  have hrun := hl w hm
  have HL : Hid (Looks m o n x true) := hl
  have HM : Hid (w.heap[m]? = some o) := hm
  have HX : Hid (Odd x) := hx
  have HO : Hid (w.ownsRow base 33 2 v k xs) := hown
  have HN : Hid (some R ≠ v.ownBlock) := hne
  have HF : Hid (F.answers w.tape) := hF
  clear hl hm hx hown hne hF
  go_enter Ybaf.func5, Ybaf.ntmps5
  go_wp2_with (go_at_call 12; refine (str_odd F base R m k o v x xs p n w HF.out hk hbase hR hRf HN.out HO.out hp hn HX.out HM.out HL.out).mono ?_; rintro e w2 ⟨g, cap, w1, q, rfl, ho, hg, hlies, rfl⟩)
  go_ret
  exact ⟨g, cap, w1, q, rfl, ho, hg, hlies, rfl⟩
end Go.Proofs.YbulkbmyaFmt.lawS3185AReads
