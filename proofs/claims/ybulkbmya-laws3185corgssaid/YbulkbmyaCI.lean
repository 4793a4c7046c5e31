/- tiergate.Subject.organizations: its iterator, walked. -/
import Derived.Test.YbulkbmyaCH
namespace Go.Proofs.Ybulkbmya.laws
open Go.RowKit Go.Maps Go.Shelf

theorem subj_cell {W : World} {B : Nat} {v : Value} (h : W.heap[B]? = some (.cells (subj v) 29 (0, 0))) : W.cell? ⟨B, 1, none⟩ = some v := (cell_of_row W _ 1 _ _ _ h).trans rfl

set_option maxRecDepth 100000 in
set_option maxHeartbeats 1000000 in
theorem orgs1_any (n : Nat) (hn : 1 ≤ n) (l Bn vc : Nat) (R : Lists) (ms : List (Option Nat)) (va : Option Addr) (hbig : R.n ≤ 256) (hcap : R.n ≤ vc) (J Jx : List Str → World → Prop)
    (hY : ∀ pre x W, J pre W → pre.length < 65536 → YieldAt Fence.wide (n - 1) Yba.prog l #[.string x.1] W fun e W' =>
      (e = .returned (.bool true) ∧ J (pre ++ [x]) W' ∧ Keeps va Bn W W') ∨ (e = .returned (.bool false) ∧ Jx (pre ++ [x]) W'))
    (W : World) (hJ : AbidesFrom W.heap.size J) (hL : Hid (Lies W.heap.size W R ms va vc Bn)) (h0 : J [] W) :
    CallsIn Fence.wide n Yba.prog 13 #[.func (.yield l) #[] #[], .pointer (some ⟨Bn, 0, none⟩)] W fun e W' => (∃ v, e = .returned v) ∧
      ((∃ ys, Came R R.n (fun _ => False) ys ∧ J ys W') ∨ (∃ pre, (∃ k P, k < R.n ∧ Came R k P pre ∧ ∀ s, P s → R.Has k s) ∧ Jx pre W')) := by
  refine callsIn_of_wp Yba.func13 rfl trivial ?_ rfl
  simp only [Yba.ntmps13, List.size_toArray, List.length_cons, List.length_nil, Nat.reduceAdd, Nat.reduceSub, Array.replicate_succ, Array.replicate_zero, List.push_toArray, List.append_toArray, List.nil_append, List.cons_append]
  obtain ⟨n0, hn0⟩ : ∃ x, R.n = x := ⟨_, rfl⟩
  have HN : Hid (R.n = n0) := hn0
  have hc1 := subj_cell hL.out.box
  rw [hn0] at hc1 hbig hcap
  clear hn0
  gi_wp2
  gi_loopw [9] (fun i wr => ∃ (k : Nat) (pre : List Str), k ≤ n0 ∧ i = .int .i64 k ∧ Lies W.heap.size wr R ms va vc Bn ∧ Came R k (fun _ => False) pre ∧ pre.length ≤ k * 256 ∧ J pre wr) (fun i _ => n0 - (intOf i).toNat)
  case atStart => exact ⟨0, [], Nat.zero_le _, rfl, hL.out, Came.start R, Nat.zero_le _, h0⟩
  case round =>
    rename World => w0
    obtain ⟨k, pre, hk, rfl, hLw, hC, hlen, hJw⟩ := hrel
    have HL : Hid (Lies W.heap.size w0 R ms va vc Bn) := hLw
    have HC : Hid (Came R k (fun _ => False) pre) := hC
    clear hLw hC hL hc1
    by_cases hlt : k < n0
    · obtain ⟨⟨g, rfl, hg, q0, q1, q2⟩, hro⟩ := HL.out.roles k (by rw [HN.out]; exact hlt)
      obtain ⟨o, ho⟩ : ∃ x, ms.getD k none = x := ⟨_, rfl⟩
      rw [ho] at q2 hro
      have hw0 := HL.out.le
      cases o with
      | none =>
        have HH : Hid (R.L k = 0) := hro
        clear hro
        have hrg := run_range_nilMap (P := Yba.prog) (w0.alloc (.cells #[.slice none 0 0, .slice none 0 0, .map none] 43)) 41 9 45 Yba.underlying41
        have hnx : ∀ ty, (Instr.next (.pointer (some ⟨(w0.alloc (.cells #[.slice none 0 0, .slice none 0 0, .map none] 43)).heap.size, 0, none⟩)) false ty).run Yba.prog ((w0.alloc (.cells #[.slice none 0 0, .slice none 0 0, .map none] 43)).alloc (.mapIter none 0 #[] 0)) = _ := fun ty => run_next_nilMap _ ty 0 0 #[]
        have hb0 : Below w0.heap.size w0 ((w0.alloc (.cells #[.slice none 0 0, .slice none 0 0, .map none] 43)).alloc (.mapIter none 0 #[] 0)) := ((Below.refl _ _).alloc (Nat.le_refl _) _).alloc (by simp) _
        simp only [World.size_alloc] at hrg hnx
        gi_wp2
        gi_loopw [17] (fun _ wr => wr = (w0.alloc (.cells #[.slice none 0 0, .slice none 0 0, .map none] 43)).alloc (.mapIter none 0 #[] 0)) (fun _ _ => 0)
        case atStart => rfl
        case round =>
          obtain rfl := hrel
          gi_wp2
          go_roundw
          case rel => exact ⟨k + 1, pre, by omega, by go_num, HL.out.below hb0, HC.out.congr (fun s => by
            rw [any_succ]
            constructor
            · rintro (h | h)
              · exact .inl (.inl h)
              · exact h.elim
            · rintro ((h | ⟨i, hi, _⟩) | h)
              · exact .inl h
              · rw [HH.out] at hi; omega
              · exact h.elim), by omega, hJ pre w0 _ none hJw ⟨hb0.os, hb0.tape, hb0.output, hb0.size, fun i hi _ => hb0.block i hi⟩ (fun r e => by cases e)⟩
          case measure => simp [intOf]; omega
      | some m =>
        obtain ⟨D, hown, hkeys⟩ := hro
        have HK : Hid (KeysAre D (R.Has k)) := hkeys
        have hown1 := owns_map_block (w' := w0.alloc (.cells #[.slice none 0 0, .slice none 0 0, .map (some m)] 43)) hown (Below.heap_alloc w0 _ m hown.lt)
        have hsz := hown.size_le
        have hb0 : Below w0.heap.size w0 (w0.alloc (.cells #[.slice none 0 0, .slice none 0 0, .map (some m)] 43)) := (Below.refl _ _).alloc (Nat.le_refl _) _
        clear hkeys
        gi_wp2_with (first
          | (gi_at_range; refine wpListIn_range_own _ rfl _ 41 rfl 9 45 law9 Yba.underlying41 anyElem m 256 D rfl hown1 ?_; intro w1 hrg1 hg1 hs1)
          | gi_in)
        have hb1 : Below w0.heap.size w0 w1 := hb0.grown hg1 (by simp) (fun k e => by cases e)
        simp only [World.size_alloc] at hrg1 hs1 ⊢
        go_frame
        gi_loopw [17] (fun _ wr => ∃ (left : Lit → Bool) (cnt : Nat) (ss : List (List UInt8)) (pre' : List Str), wr.ranges Yba.prog 9 anyElem m (w0.heap.size + 1) 256 D left cnt ∧ ss.length + cnt ≤ Maps.size D ∧ Collected D left ss ∧ Lies W.heap.size wr R ms (some ⟨g, 0, none⟩) vc Bn ∧ Came R k (fun s => s.data.toList ∈ ss) pre' ∧ pre'.length ≤ k * 256 + ss.length ∧ J pre' wr)
          (fun _ wr => wr.rangeLeft m (w0.heap.size + 1))
        case atStart =>
          exact ⟨_, _, [], pre, hrg1, by simp, Collected.start D, HL.out.below hb1, HC.out.congr (fun s => by simp), by simp; exact hlen, hJ pre w0 _ none hJw ⟨hb1.os, hb1.tape, hb1.output, hb1.size, fun i hi _ => hb1.block i hi⟩ (fun r e => by cases e)⟩
        case round =>
          obtain ⟨left, cnt, ss, pre', hrg, hcs, hC, hLw, hCm, hlen', hJs⟩ := hrel
          clear hrg1 hs1 hb1 hg1 hb0 hown1 q0 q1 q2
          have HL2 : Hid (Lies W.heap.size wr R ms (some ⟨g, 0, none⟩) vc Bn) := hLw
          have HC2 : Hid (Came R k (fun s => s.data.toList ∈ ss) pre') := hCm
          have HCo : Hid (Collected D left ss) := hC
          clear hLw hCm hC
          gi_wp2_with (first
            | (gi_at_next; refine wpListIn_next_ranges _ rfl _ rfl 9 law9 anyElem Value.string (fun v : Value => v) (fun key kl hk => by obtain ⟨x, hx, _⟩ := Maps.keyOf_str Yba.underlying9 hk; exact ⟨_, hx⟩) (fun v y hv => ⟨v, rfl⟩) m (w0.heap.size + 1) 256 _ _ _ rfl hrg ?_ ?_)
            | gi_in)
          · -- nothing is left
            intro hc0 hl0
            have HLF : Hid (∀ kl, left kl = false) := hl0
            clear hl0
            gi_wp2
            go_roundw
            case rel => exact ⟨k + 1, pre', by omega, by go_num, HL2.out, HC2.out.congr (fun s => by
              rw [any_succ, HCo.out.2, HLF.out, ← HK.out.has s.1]
              unfold key
              simp), by omega, hJs⟩
            case measure => simp [intOf]; omega
          · -- an entry has come
            intro s c kl yd yp w2 cnt2 hkey hlk hv hat hrg2 hlt2 hg2 hs2 hen
            obtain ⟨x', ex, rfl, hxl⟩ := Maps.keyOf_str Yba.underlying9 hkey
            obtain rfl : x' = s.data.toList := by
              unfold encStr at ex
              simp at ex
              rw [ex]
            have hC2 := HCo.out.step hlk hat
            have hss : s.size ≤ maxLen := by simpa using hxl
            have hw : w0.heap.size + 1 < wr.heap.size := by obtain ⟨o, ho, _⟩ := hrg.iter_walk; exact (Array.getElem?_eq_some_iff.1 ho).1
            have hL2 : Lies W.heap.size w2 R ms (some ⟨g, 0, none⟩) vc Bn := HL2.out.grown hg2 (fun r e => by cases e; omega)
            have hJ2 : J pre' w2 := hJ pre' wr w2 (some (w0.heap.size + 1)) hJs hg2 (fun r e => by cases e; exact ⟨by omega, hrg.iter_walk⟩)
            have hm : ∀ z : ByteArray, z.data.toList ∈ ss ++ [s.data.toList] ↔ z.data.toList ∈ ss ∨ z = s := fun z => by
              rw [List.mem_append, List.mem_singleton]
              exact ⟨fun h => h.imp id fun e => ByteArray.ext (Array.toList_inj.1 e), fun h => h.imp id fun e => by rw [e]⟩
            have HCo2 : Hid (Collected D (fun z => left z && !z.sameKey (.string s.data.toList)) (ss ++ [s.data.toList])) := hC2
            have HM : Hid (∀ z : ByteArray, z.data.toList ∈ ss ++ [s.data.toList] ↔ z.data.toList ∈ ss ∨ z = s) := hm
            have hnew : s.data.toList ∉ ss := fun hx => by have := ((HCo.out.2 _).1 hx).2; rw [hlk] at this; cases this
            have HNEW : Hid (s.data.toList ∉ ss) := hnew
            have HS : Hid (s.size ≤ maxLen) := hss
            have HL3 : Hid (Lies W.heap.size w2 R ms (some ⟨g, 0, none⟩) vc Bn) := hL2
            have hc2 := subj_cell hL2.box
            rw [HN.out] at hc2
            clear hs2 hC2 hv hat hkey hxl ex hlk hm hnew hss hL2
            by_cases he : s.toList.isEmpty = true
            · obtain rfl := nil_of_isEmpty he
              clear he
              gi_wp2
              refine ⟨trivial, ?_⟩
              gi_wp2
              go_roundw
              case rel => exact ⟨_, cnt2, _, pre', hrg2, by simp; omega, HCo2.out, HL3.out, (HC2.out.pass _ (.inl rfl)).congr (fun z => by rw [HM.out]), by simp; omega, hJ2⟩
              case measure => rw [hrg2.left_eq, hrg.left_eq]; exact hlt2
            · have hee : s.toList.isEmpty = false := by simpa using he
              have HE : Hid (s ≠ ⟨#[]⟩) := fun e => he (by subst e; rw [ByteArray.toList_eq]; rfl)
              clear he
              by_cases ha : R.Any k s
              · have HA : Hid (R.Any k s) := ha
                clear ha
                gi_wp2_with (refine ⟨trivial, ?_⟩; gi_at_call 12; refine (callsIn_wide.2 (in_yes R k vc ms (some ⟨g, 0, none⟩) s HS.out w2 (by omega) (HL3.out.roles.le (by rw [HN.out]; omega)) HA.out)).mono ?_; rintro e w3 ⟨rfl, hb3⟩)
                have hgb3 : w2.grownBy w3 none := ⟨hb3.os, hb3.tape, hb3.output, hb3.size, fun i hi _ => hb3.block i hi⟩
                have hrg3 := hrg2.kept hgb3 (by simp) (by simp)
                go_roundw
                case rel => exact ⟨_, cnt2, _, pre', hrg3, by simp; omega, HCo2.out, HL3.out.below hb3, (HC2.out.pass _ (.inr HA.out)).congr (fun z => by rw [HM.out]), by simp; omega, hJ pre' w2 _ none hJ2 hgb3 (fun r e => by cases e)⟩
                case measure => rw [hrg3.left_eq, hrg.left_eq]; exact hlt2
              · have HA : Hid (¬ R.Any k s) := ha
                clear ha
                gi_wp2_with (refine ⟨trivial, ?_⟩; gi_at_call 12; refine (callsIn_wide.2 (in_no R k vc ms (some ⟨g, 0, none⟩) s HS.out w2 (by omega) (HL3.out.roles.le (by rw [HN.out]; omega)) HA.out)).mono ?_; rintro e w3 ⟨rfl, hb3⟩; have hgb3 : w2.grownBy w3 none := ⟨hb3.os, hb3.tape, hb3.output, hb3.size, fun i hi _ => hb3.block i hi⟩; have hrg3 := hrg2.kept hgb3 (by simp) (by simp); have hJ3 := hJ pre' w2 _ none hJ2 hgb3 (fun r e => by cases e); obtain ⟨fn, tmps, assign, body, hy, hR⟩ := hY pre' ⟨s, HS.out⟩ w3 hJ3 (by omega); dsimp only at hy; have HL4 : Hid (Lies W.heap.size w3 R ms (some ⟨g, 0, none⟩) vc Bn) := HL3.out.below hb3; clear hgb3 hb3 hJ3 hJ2 HL3)
                refine hR.mono ?_
                have hC3 := HC2.out.more ⟨s, HS.out⟩ HE.out HA.out HNEW.out
                have HC3 : Hid (Came R k (fun z => z.data.toList ∈ ss ∨ z = s) (pre' ++ [⟨s, HS.out⟩])) := hC3
                clear hC3
                rintro e W3 (⟨rfl, hJ3, hk3⟩ | ⟨rfl, hJx3⟩)
                · have hrg4 := hrg3.of_walks hk3.walks
                  have HL5 : Hid (Lies W.heap.size W3 R ms (some ⟨g, 0, none⟩) vc Bn) := HL4.out.keeps hk3
                  clear hk3 hrg3
                  gi_wp2
                  go_roundw
                  case rel => exact ⟨_, cnt2, _, _, hrg4, by simp; omega, HCo2.out, HL5.out, HC3.out.congr (fun z => by rw [HM.out]), by simp; omega, hJ3⟩
                  case measure => rw [hrg4.left_eq, hrg.left_eq]; exact hlt2
                · gi_wp2
                  refine bodyPost_ret (results_none rfl _ _ _) rfl ?_
                  exact ⟨⟨_, rfl⟩, .inr ⟨_, ⟨k, _, by rw [HN.out]; exact hlt, HC3.out, fun z hz => (HK.out.has z).1 ((HCo2.out.2 _).1 ((HM.out z).2 hz)).1⟩, hJx3⟩⟩
    · obtain rfl : k = n0 := by omega
      gi_wp2
      go_end0
      exact ⟨⟨_, rfl⟩, .inl ⟨pre, by rw [HN.out]; exact HC.out, hJw⟩⟩

/-- Each nonempty key once: all of them, or the part that has come. -/
def GoodPart (R : Lists) (pre : List Str) : Prop := pre.Nodup ∧ ∀ s : Str, s ∈ pre → s.1 ≠ ⟨#[]⟩ ∧ R.Any R.n s.1

theorem orgs_stops (n : Nat) (hn : 1 ≤ n) (Bn vc : Nat) (R : Lists) (ms : List (Option Nat)) (va : Option Addr) (hbig : R.n ≤ 256) (hcap : R.n ≤ vc) (w : World) (hL : Lies w.heap.size w R ms va vc Bn) :
    SeqStopsK Fence.wide n Yba.prog 13 #[.pointer (some ⟨Bn, 0, none⟩)] (fun x : Str => #[Value.string x.1]) (Keeps va Bn) (Came R R.n (fun _ => False)) (GoodPart R) 65536 w := fun l J Jx W hW hJ _ hY h0 => by
  have hLW := hL.below hW
  refine (orgs1_any n hn l Bn vc R ms va hbig hcap J Jx hY W hJ ⟨hLW.roles, hLW.box, fun k hk => Nat.lt_of_lt_of_le (hLW.lt k hk) hW.size, Nat.le_refl _⟩ h0).mono ?_
  rintro e W' ⟨hv, h | ⟨pre, ⟨k, P, hk, hC, hP⟩, hx⟩⟩
  · exact ⟨hv, .inl h⟩
  · refine ⟨hv, .inr ⟨pre, ⟨hC.nodup, fun s hs => ?_⟩, hx⟩⟩
    obtain ⟨h1, h2⟩ := (hC.mem s).1 hs
    refine ⟨h1, ?_⟩
    rcases h2 with ⟨j, hj, h⟩ | h
    · exact ⟨j, by omega, h⟩
    · exact ⟨k, hk, hP _ h⟩
end Go.Proofs.Ybulkbmya.laws
