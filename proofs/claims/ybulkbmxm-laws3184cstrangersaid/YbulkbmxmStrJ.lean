/- rumorwire.LawS3184CStranger: the law's own walk. -/
import Derived.Test.YbulkbmxmStrI
namespace Go.Proofs.Ybulkbmxm.lawS3184CStranger
open Go.RowKit

theorem long (a : Option Addr) (len cap : Nat) (f s me st : Int) (w : World) (hlen : 1024 < len) (hm : len ≤ 9223372036854775807) :
    Calls Yba.prog 6 #[.slice a len cap, .int .u8 f, .int .u16 s, .int .u16 me, .int .i64 st] w fun e w' => e = .returned (.bool true) ∧ Below w.heap.size w w' := by
  go_enter Yba.func6, Yba.ntmps6
  go_wp2
  go_ret
  exact ⟨rfl, Below.refl _ _⟩

/-- The node's cells: 164; but for the address and the map nobody looks at one. -/
theorem node_built (me : Int) : ∃ C : Array Value, Yba.prog.built 124 [(4, .agg #[.int .u64 0, .int .u64 0, .pointer none, .int .u16 me])] = some C ∧
    C[26]? = some (.int .u64 0) ∧ C[27]? = some (.int .u64 0) ∧ C[28]? = some (.pointer none) ∧ C[29]? = some (.int .u16 me) ∧ C[36]? = some (.map none) :=
  ⟨(Yba.prog.built 124 [(4, .agg #[.int .u64 0, .int .u64 0, .pointer none, .int .u16 me])]).getD #[], by kernel_rfl, by kernel_rfl, by kernel_rfl, by kernel_rfl, by kernel_rfl, by kernel_rfl⟩

theorem wpList_build_to {P : Program} {ops : Array Oper} {rest : List Oper} {o : Oper} {a : Act} {w : World} {Q : Exit → Act → World → Prop} (hg : o.guard = none) (t : TypeId) (parts : Array (Nat × Operand)) (ho : o.op = .build t parts) (cells : Array Value)
    (hc : P.built t (parts.map fun (i, x) => (i, a.eval x)).toList = some cells) (h : wpList P ops Q rest (a.put o.dst (.agg cells)) w) : wpList P ops Q (o :: rest) a w :=
  wpList_build hg t parts ho (by rw [hc]; rfl) (by rw [hc]; exact h)

set_option maxHeartbeats 1000000 in
set_option maxRecDepth 100000 in
theorem core (a : Option Addr) (len cap : Nat) (f s me st : Int) (w : World) (hlen : len ≤ 1024) (hf0 : 0 ≤ f) (hf1 : f ≤ 255)
    (hc : Hid (∀ j, j < len → ∃ b o z, a = some ⟨b, o, none⟩ ∧ b < w.heap.size ∧ w.cell? ⟨b, o + j, none⟩ = some (.int .u16 z))) :
    Calls Yba.prog 6 #[.slice a len cap, .int .u8 f, .int .u16 s, .int .u16 me, .int .i64 st] w fun e w' => e = .returned (.bool true) ∧ Below w.heap.size w w' := by
  obtain ⟨C, hC, c0, c1, c2, c3, c4⟩ := node_built me
  have HC : Hid _ := hC
  have H0 : Hid _ := c0
  have H1 : Hid _ := c1
  have H2 : Hid _ := c2
  have H3 : Hid _ := c3
  have H4 : Hid _ := c4
  clear hC c0 c1 c2 c3 c4
  go_enter Yba.func6, Yba.ntmps6
  go_wp2_with fail
  refine (build_any a len cap f w hlen hf0 hf1 hc).mono ?_
  rintro e w1 ⟨n, ps, rfl, hps, hn, hown, hb1⟩
  have HO : Hid (w1.ownsRow w.heap.size 50 4 (.slice (some ⟨w.heap.size, 0, none⟩) n (256 + len)) n (flat ps)) := hown
  have HP : Hid (ps.length = n) := hps
  clear hown hps hc
  go_wp2_with fail
  refine (addr_any _ _).mono ?_
  rintro e w2 ⟨rfl, hb2⟩
  go_wp2_with (refine wpList_build_to rfl 124 #[(4, .tmp 20)] rfl C (by simpa [Act.eval] using HC.out) ?_)
  refine (addr_any _ _).mono ?_
  rintro e w3 ⟨rfl, hb3⟩
  have s1 := hb1.size
  have s2 := hb2.size
  have s3 := hb3.size
  simp only [World.size_alloc] at s3
  have hN : ∀ i, w3.cell? ⟨w2.heap.size, i, none⟩ = C[i]? := fun i => (hb3.cell (p := ⟨w2.heap.size, i, none⟩) (by simp)).trans (World.cell?_alloc_at _ _ _ _ rfl)
  have own1 := owns_below HO.out hb2
  have own3 := owns_below (own1.alloc (.cells C 124)) hb3
  have hsrc : Hid (∀ j, j < n → AddrAt w3 w.heap.size j (ps.getD j 0)) := addr_at own3 HP.out
  have hG := row_lt own3
  have hbel : Below w.heap.size w w3 := ((hb1.trans (hb2.mono s1)).alloc (by omega) _).trans (hb3.mono (by simp; omega))
  have q0 := (hN 26).trans H0.out
  have q1 := (hN 27).trans H1.out
  have q2 := (hN 28).trans H2.out
  have q3 := (hN 29).trans H3.out
  have q4 := (hN 36).trans H4.out
  clear hN own1 own3 hb1 hb2 hb3 H0 H1 H2 H3 H4 HC HO
  go_wp2_with fail
  refine (check_any w2.heap.size w.heap.size n (256 + len) ps s me st w3 hn HP (by omega) hG hsrc q0 q1 q2 q3 q4).mono ?_
  rintro e w4 ⟨rfl, hb4⟩
  clear q0 q1 q2 q3 q4 hsrc
  go_wp2_with fail
  go_ret
  exact ⟨rfl, hbel.trans (hb4.mono (by omega))⟩
end Go.Proofs.Ybulkbmxm.lawS3184CStranger
