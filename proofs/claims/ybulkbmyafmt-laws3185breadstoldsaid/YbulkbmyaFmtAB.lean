/- tiergate.LawS3185AReads: a member of the wrong type: fmt's text is whatever fmt gives. -/
import Derived.Test.YbulkbmyaFmtAA
import Derived.Stop.CallBack
import Derived.Stop.IfaceNil
import GoSem.ClaimData
namespace Go.Proofs.YbulkbmyaFmt.lawS3185AReads
open Go.RowKit Go.Extern.Stop Go.Stop Go.Extern

theorem call14 (args : Array Value) (w : World) : (callFunc 14 args).run Ybaf.prog w = ((FmtStop.sprintf #[9, 27] #[9] args).run Ybaf.prog w).andThen fun v w' => .ok (.value v) w' :=
  run_callFunc_extern Ybaf.func14 (by kernel_rfl) (by kernel_rfl) (by kernel_rfl) (by kernel_rfl) args w
theorem guardF (name : String) (w : World) : (FmtStop.guard name).run Ybaf.prog w = .ok () w := by kernel_rfl
theorem fmtW : FmtStop.printed? ⟨#[109, 117, 115, 116, 32, 98, 101, 32, 37, 115, 44, 32, 110, 111, 116, 32, 37, 115]⟩ 2 = some [(0, 115, false), (1, 115, false)] := by kernel_rfl
theorem fmtWr (w : World) : (FmtDoors.printed ⟨#[109, 117, 115, 116, 32, 98, 101, 32, 37, 115, 44, 32, 110, 111, 116, 32, 37, 115]⟩ 2).run Ybaf.prog w = .ok [(0, 115, false), (1, 115, false)] w := by kernel_rfl
def shape9 : List UInt8 := [12, 6, 0, 0, 0, 0, 0, 0, 0, 115, 116, 114, 105, 110, 103]
theorem op9 (name : String) (x : ByteArray) (w : World) : (FmtStop.operand name false 115 false (.iface 9 (.string x))).run Ybaf.prog w = .ok (shape9, FmtStop.pack x.data.toList) w := by kernel_rfl

/-- Which kinds of value a member that is no string has. -/
def Odd (v : Value) : Prop := (∃ b, v = .iface 4 (.bool b)) ∨ (∃ a n c, v = .iface 27 (.slice a n c)) ∨ (∃ r, v = .iface 26 (.map r)) ∨ v = .nilIface

theorem as_b_9 (b : Bool) (w : World) : (Instr.typeAssert (.iface 4 (.bool b)) 20 9 true).run Ybaf.prog w = .ok (.tuple #[.string ⟨#[]⟩, .bool false]) w := by kernel_rfl
theorem as_b_74 (b : Bool) (w : World) : (Instr.typeAssert (.iface 4 (.bool b)) 20 74 true).run Ybaf.prog w = .ok (.tuple #[.string ⟨#[]⟩, .bool false]) w := by kernel_rfl
theorem as_b_4 (b : Bool) (w : World) : (Instr.typeAssert (.iface 4 (.bool b)) 20 4 true).run Ybaf.prog w = .ok (.tuple #[.bool b, .bool true]) w := by kernel_rfl
theorem as_s_9 (a : Option Addr) (n c : Nat) (w : World) : (Instr.typeAssert (.iface 27 (.slice a n c)) 20 9 true).run Ybaf.prog w = .ok (.tuple #[.string ⟨#[]⟩, .bool false]) w := by kernel_rfl
theorem as_s_74 (a : Option Addr) (n c : Nat) (w : World) : (Instr.typeAssert (.iface 27 (.slice a n c)) 20 74 true).run Ybaf.prog w = .ok (.tuple #[.string ⟨#[]⟩, .bool false]) w := by kernel_rfl
theorem as_s_4 (a : Option Addr) (n c : Nat) (w : World) : (Instr.typeAssert (.iface 27 (.slice a n c)) 20 4 true).run Ybaf.prog w = .ok (.tuple #[.bool false, .bool false]) w := by kernel_rfl
theorem as_s_27 (a : Option Addr) (n c : Nat) (w : World) : (Instr.typeAssert (.iface 27 (.slice a n c)) 20 27 true).run Ybaf.prog w = .ok (.tuple #[.slice a n c, .bool true]) w := by kernel_rfl
theorem as_m_9 (r : Option Nat) (w : World) : (Instr.typeAssert (.iface 26 (.map r)) 20 9 true).run Ybaf.prog w = .ok (.tuple #[.string ⟨#[]⟩, .bool false]) w := by kernel_rfl
theorem as_m_74 (r : Option Nat) (w : World) : (Instr.typeAssert (.iface 26 (.map r)) 20 74 true).run Ybaf.prog w = .ok (.tuple #[.string ⟨#[]⟩, .bool false]) w := by kernel_rfl
theorem as_m_4 (r : Option Nat) (w : World) : (Instr.typeAssert (.iface 26 (.map r)) 20 4 true).run Ybaf.prog w = .ok (.tuple #[.bool false, .bool false]) w := by kernel_rfl
theorem as_m_27 (r : Option Nat) (w : World) : (Instr.typeAssert (.iface 26 (.map r)) 20 27 true).run Ybaf.prog w = .ok (.tuple #[.slice none 0 0, .bool false]) w := by kernel_rfl
theorem as_m_26 (r : Option Nat) (w : World) : (Instr.typeAssert (.iface 26 (.map r)) 20 26 true).run Ybaf.prog w = .ok (.tuple #[.map r, .bool true]) w := by kernel_rfl
theorem as_z_9  (w : World) : (Instr.typeAssert (.nilIface) 20 9 true).run Ybaf.prog w = .ok (.tuple #[.string ⟨#[]⟩, .bool false]) w := by kernel_rfl
theorem as_z_74  (w : World) : (Instr.typeAssert (.nilIface) 20 74 true).run Ybaf.prog w = .ok (.tuple #[.string ⟨#[]⟩, .bool false]) w := by kernel_rfl
theorem as_z_4  (w : World) : (Instr.typeAssert (.nilIface) 20 4 true).run Ybaf.prog w = .ok (.tuple #[.bool false, .bool false]) w := by kernel_rfl
theorem as_z_27  (w : World) : (Instr.typeAssert (.nilIface) 20 27 true).run Ybaf.prog w = .ok (.tuple #[.slice none 0 0, .bool false]) w := by kernel_rfl
theorem as_z_26  (w : World) : (Instr.typeAssert (.nilIface) 20 26 true).run Ybaf.prog w = .ok (.tuple #[.map none, .bool false]) w := by kernel_rfl
theorem as_t_9 (s : ByteArray) (w : World) : (Instr.typeAssert (.iface 9 (.string s)) 20 9 true).run Ybaf.prog w = .ok (.tuple #[.string s, .bool true]) w := by kernel_rfl

set_option maxRecDepth 100000 in
theorem kind_odd (v : Value) (hv : Odd v) (w : World) : Calls Ybaf.prog 22 #[v] w fun e w' => (∃ s, e = .returned (.string s)) ∧ w = w' := by
  rcases hv with ⟨b, rfl⟩ | ⟨a, n, c, rfl⟩ | ⟨r, rfl⟩ | rfl
  · have h9 := as_b_9
    have h74 := as_b_74
    have h4 := as_b_4
    go_enter Ybaf.func22, Ybaf.ntmps22
    go_wp2
    go_ret
    exact ⟨⟨_, rfl⟩, rfl⟩
  · have h9 := as_s_9
    have h74 := as_s_74
    have h4 := as_s_4
    have h27 := as_s_27
    go_enter Ybaf.func22, Ybaf.ntmps22
    go_wp2
    go_ret
    exact ⟨⟨_, rfl⟩, rfl⟩
  · have h9 := as_m_9
    have h74 := as_m_74
    have h4 := as_m_4
    have h27 := as_m_27
    have h26 := as_m_26
    go_enter Ybaf.func22, Ybaf.ntmps22
    go_wp2
    go_ret
    exact ⟨⟨_, rfl⟩, rfl⟩
  · have h9 := as_z_9
    have h74 := as_z_74
    have h4 := as_z_4
    have h27 := as_z_27
    have h26 := as_z_26
    go_enter Ybaf.func22, Ybaf.ntmps22
    go_wp2
    go_ret
    exact ⟨⟨_, rfl⟩, rfl⟩

set_option maxHeartbeats 400000 in
set_option maxRecDepth 100000 in
theorem wrong_any (F : Interp) (base R n : Nat) (v x : Value) (xs : List Value) (p : ByteArray) (w : World) (hF : F.answers w.tape) (hn : n ≤ 100000000) (hbase : base ≤ w.heap.size) (hR : w.cell? ⟨R, 0, none⟩ = some v) (hRf : w.frozen? ⟨R, 0, none⟩ = false) (hne : some R ≠ v.ownBlock)
    (hown : w.ownsRow base 33 2 v n xs) (want : ByteArray) (hx : Odd x) :
    Calls Ybaf.prog 18 #[.pointer (some ⟨R, 0, none⟩), .string p, .string want, x] w fun e w' =>
      ∃ g cap w1 q, e = .returned (.tuple #[]) ∧ w1.ownsRow base 33 2 (.slice (some ⟨g, 0, none⟩) (n + 1) cap) (n + 1) (xs ++ [.string p, .string q]) ∧ w.grownBy w1 v.ownBlock ∧ (v.ownBlock = some g ∨ w.heap.size ≤ g) ∧
        w' = w1.setCell ⟨R, 0, none⟩ (.slice (some ⟨g, 0, none⟩) (n + 1) cap) := by
  have hF' := answers_open hF
  have k1 := call14
  have k2 := guardF
  have k3 := fmtW
  have k4 := fmtWr
  have k5 := op9
  have hRb : R < w.heap.size := by have := block_lt_of_cell hR; simpa using this
  have HO : Hid (w.ownsRow base 33 2 v n xs) := hown
  have HN : Hid (some R ≠ v.ownBlock) := hne
  have HX : Hid (Odd x) := hx
  clear hown hne hx
  go_enter Ybaf.func18, Ybaf.ntmps18
  go_wp2_with (go_at_call 22; refine (kind_odd x HX.out _).mono ?_; rintro e w' ⟨⟨s, rfl⟩, rfl⟩)
  have hbx : Below w.heap.size w (w.alloc (Obj.cells #[Value.iface 9 (Value.string want), Value.iface 9 (Value.string s)] 20)).drew := ((Below.refl _ _).alloc (Nat.le_refl _) _).drew
  refine (fault_any base R n v xs p _ _ (by omega) (by have := hbx.size; omega) ((hbx.cell (p := ⟨R, 0, none⟩) hRb).trans hR) ((hbx.frozen (p := ⟨R, 0, none⟩) hRb).trans hRf) HN.out ((HO.out.alloc _).drew)).mono ?_
  rintro e w2 ⟨g, cap, w1, rfl, ho, hg, hl, rfl⟩
  have G := grown_alloc (o := .cells #[.iface 9 (.string want), .iface 9 (.string s)] 20) (w := w) (w1 := w1) ⟨hg.os, hg.tape, hg.output, hg.size, hg.block⟩
  have L : v.ownBlock = some g ∨ w.heap.size ≤ g := hl.imp id (fun h => by have := hbx.size; omega)
  clear hg hl hbx k1 k2 k3 k4 k5 hF'
  go_wp2_with fail
  go_end0
  exact ⟨g, cap, w1, _, rfl, ho, G, L, rfl⟩
end Go.Proofs.YbulkbmyaFmt.lawS3185AReads
