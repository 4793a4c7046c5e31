/- rumorwire.zzs3184ccheck: the walk. -/
import Derived.Test.YbulkbmxmStrH
namespace Go.Proofs.Ybulkbmxm.lawS3184CStranger
open Go.RowKit

/-- The frames behind k rounds of the first loop. -/
def qs (ps : List Int) (n k : Nat) : List Int := ps.take k ++ List.replicate (n - k) 0
theorem qs_length (ps : List Int) (n k : Nat) (hl : ps.length = n) (hk : k ≤ n) : (qs ps n k).length = n := by simp [qs]; omega
theorem qs_zero (ps : List Int) (n : Nat) : qs ps n 0 = List.replicate n 0 := by simp [qs]
theorem qs_all (ps : List Int) (n : Nat) (hl : ps.length = n) : qs ps n n = ps := by simp [qs, ← hl]
theorem qs_succ (ps : List Int) (n k : Nat) (hl : ps.length = n) (hk : k < n) : (qs ps n k).set k (ps.getD k 0) = qs ps n (k + 1) := by
  unfold qs
  have hlt : (ps.take k).length = k := by simp; omega
  rw [List.set_append_right _ _ (by omega), hlt, Nat.sub_self, show n - k = (n - (k + 1)) + 1 by omega, List.replicate_succ, List.set_cons_zero]
  have e : ps.take (k + 1) = ps.take k ++ [ps.getD k 0] := by
    rw [List.take_succ_eq_append_getElem (by omega)]
    simp [List.getD, List.getElem?_eq_getElem (show k < ps.length by omega)]
  rw [e, List.append_assoc]
  rfl

/-- What the first loop keeps: the frames' row. -/
def Row (w : World) (base F n : Nat) (ls : List Int) : Prop := w.ownsRow base 137 5 (.slice (some ⟨F, 0, none⟩) n n) n (flat5 ls)

theorem row_made {w1 : World} {base F n : Nat} {z : Value} (h : w1.ownsRow base 137 5 (.slice (some ⟨F, 0, none⟩) n n) n (madeCells z.cells (n * 5)).toList) (hz : z = .agg #[.int .u64 0, .int .u64 0, .pointer none, .int .u16 0, .slice none 0 0]) (ps : List Int) : Row w1 base F n (qs ps n 0) := by
  subst hz
  rw [made_frames] at h
  rw [qs_zero]
  exact h

theorem row_step {w : World} {base F n k : Nat} {ps : List Int} (hl : ps.length = n) (hk : k < n) (h : Row w base F n (qs ps n k)) :
    Row (((((w.setCell ⟨F, k * 5, none⟩ (.int .u64 0)).setCell ⟨F, k * 5 + 1, none⟩ (.int .u64 0)).setCell ⟨F, k * 5 + 2, none⟩ (.pointer none)).setCell ⟨F, k * 5 + 3, none⟩ (.int .u16 (ps.getD k 0))).setCell ⟨F, k * 5 + 4, none⟩ (.slice none 0 0)) base F n (qs ps n (k + 1)) := by
  have s0 := World.ownsRow.stored h (k * 5) (.int .u64 0)
  have s1 := s0.1.stored (k * 5 + 1) (.int .u64 0)
  have s2 := s1.1.stored (k * 5 + 2) (.pointer none)
  have s3 := s2.1.stored (k * 5 + 3) (.int .u16 (ps.getD k 0))
  have s4 := (s3.1.stored (k * 5 + 4) (.slice none 0 0)).1
  rw [flat5_set _ _ _ (by rw [qs_length _ _ _ hl (by omega)]; exact hk), qs_succ _ _ _ hl hk] at s4
  exact s4

theorem row_step' {w : World} {base F n k : Nat} {ps : List Int} {p : Int} (hl : ps.length = n) (hk : k < n) (hp : ps.getD k 0 = p) (h : Row w base F n (qs ps n k)) :
    Row (((((w.setCell ⟨F, k * 5, none⟩ (.int .u64 0)).setCell ⟨F, k * 5 + 1, none⟩ (.int .u64 0)).setCell ⟨F, k * 5 + 2, none⟩ (.pointer none)).setCell ⟨F, k * 5 + 3, none⟩ (.int .u16 p)).setCell ⟨F, k * 5 + 4, none⟩ (.slice none 0 0)) base F n (qs ps n (k + 1)) := by
  subst hp
  exact row_step hl hk h

/-- The boxed source. -/
def Box (w : World) (X : Nat) (s : Int) : Prop := w.heap[X]? = some (.cells #[.int .u64 0, .int .u64 0, .pointer none, .int .u16 s] 50 (0, 0))

theorem box_set {w : World} {X F i : Nat} {s : Int} {u : Value} (h : Box w X s) (hne : X ≠ F) : Box (w.setCell ⟨F, i, none⟩ u) X s := by
  unfold Box
  rw [Below.heap_setCell _ _ _ _ (by simpa using hne)]
  exact h

theorem box_cells {w : World} {X : Nat} {s : Int} (h : Box w X s) : w.cell? ⟨X, 0, none⟩ = some (.int .u64 0) ∧ w.cell? ⟨X, 1, none⟩ = some (.int .u64 0) ∧ w.cell? ⟨X, 2, none⟩ = some (.pointer none) ∧ w.cell? ⟨X, 3, none⟩ = some (.int .u16 s) :=
  ⟨cell_of_row w X 0 _ _ _ h, cell_of_row w X 1 _ _ _ h, cell_of_row w X 2 _ _ _ h, cell_of_row w X 3 _ _ _ h⟩

theorem row_cells {w : World} {base F n k : Nat} {ls : List Int} (h : Row w base F n ls) (hl : ls.length = n) (hk : k < n) :
    (∃ v, w.cell? ⟨F, k * 5, none⟩ = some v) ∧ (∃ v, w.cell? ⟨F, k * 5 + 1, none⟩ = some v) ∧ (∃ v, w.cell? ⟨F, k * 5 + 2, none⟩ = some v) ∧ (∃ v, w.cell? ⟨F, k * 5 + 3, none⟩ = some v) ∧ (∃ v, w.cell? ⟨F, k * 5 + 4, none⟩ = some v) ∧ (∀ i, w.frozen? ⟨F, i, none⟩ = false) := by
  obtain ⟨a0, a1, a2, a3, a4⟩ := frame_at h hl k hk
  exact ⟨⟨_, a0⟩, ⟨_, a1⟩, ⟨_, a2⟩, ⟨_, a3⟩, ⟨_, a4⟩, fun i => World.ownsRow.frozenAt h i⟩

/-- The round as the check lays it. -/
abbrev rdCells (fr : Value) (st : Int) : Array Value := #[.pointer none, .int .u64 0, fr, .nilFunc, .int .u64 0, .int .u64 0, .float .f64 0, .float .f64 0, .bool false, .bool false, .bool false, .int .i64 0, .slice none 0 0, .slice none 0 0, .int .i64 st]

theorem scene_of {w wr : World} {N n : Nat} {ps : List Int} {me st : Int} (hn : n ≤ 1280) (hlen : ps.length = n) (hN : N < w.heap.size) (hb : Below w.heap.size w wr) (_hs : w.heap.size < wr.heap.size)
    (hrow : Row wr w.heap.size (w.heap.size + 1) n (qs ps n n))
    (n0 : w.cell? ⟨N, 26, none⟩ = some (.int .u64 0)) (n1 : w.cell? ⟨N, 27, none⟩ = some (.int .u64 0)) (n2 : w.cell? ⟨N, 28, none⟩ = some (.pointer none)) (n3 : w.cell? ⟨N, 29, none⟩ = some (.int .u16 me)) (nm : w.cell? ⟨N, 36, none⟩ = some (.map none)) :
    Scene (wr.alloc (.cells (rdCells (.slice (some ⟨w.heap.size + 1, 0, none⟩) n n) st) 149)) N wr.heap.size (w.heap.size + 1) n n ps me st w.heap.size := by
  have hF := row_lt hrow
  have hbW : Below w.heap.size w (wr.alloc (.cells (rdCells (.slice (some ⟨w.heap.size + 1, 0, none⟩) n n) st) 149)) := hb.alloc (by omega) _
  rw [qs_all _ _ hlen] at hrow
  exact ⟨(hbW.cell (p := ⟨N, 26, none⟩) hN).trans n0, (hbW.cell (p := ⟨N, 27, none⟩) hN).trans n1, (hbW.cell (p := ⟨N, 28, none⟩) hN).trans n2, (hbW.cell (p := ⟨N, 29, none⟩) hN).trans n3, (hbW.cell (p := ⟨N, 36, none⟩) hN).trans nm,
    (World.cell?_alloc_at _ _ _ _ rfl).trans rfl, World.frozen?_alloc_at _ _ _ _ rfl, (World.cell?_alloc_at _ _ _ _ rfl).trans rfl, World.frozen?_alloc_at _ _ _ _ rfl,
    World.ownsRow.alloc hrow _, hlen, hn, by simp; omega, by omega, by omega, by omega⟩

/-- What is known behind the call of 'frame'. -/
structure After (w w3 : World) (N G R n : Nat) (ps : List Int) (s me st jv : Int) (okv : Bool) (g n' cap' : Nat) (st' : Int) : Prop where
  r2 : w3.cell? ⟨R, 2, none⟩ = some (.slice (some ⟨g, 0, none⟩) n' cap')
  r14 : w3.cell? ⟨R, 14, none⟩ = some (.int .i64 st')
  n0 : w3.cell? ⟨N, 26, none⟩ = some (.int .u64 0)
  n1 : w3.cell? ⟨N, 27, none⟩ = some (.int .u64 0)
  n2 : w3.cell? ⟨N, 28, none⟩ = some (.pointer none)
  n3 : w3.cell? ⟨N, 29, none⟩ = some (.int .u16 me)
  x0 : w3.cell? ⟨w.heap.size, 0, none⟩ = some (.int .u64 0)
  x1 : w3.cell? ⟨w.heap.size, 1, none⟩ = some (.int .u64 0)
  x2 : w3.cell? ⟨w.heap.size, 2, none⟩ = some (.pointer none)
  x3 : w3.cell? ⟨w.heap.size, 3, none⟩ = some (.int .u16 s)
  frames : ∀ j, j < n' → FrameAt w3 g j ((ps ++ [s]).getD j 0)
  addrs : ∀ j, j < n → AddrAt w3 G j (ps.getD j 0)
  below : Below w.heap.size w w3
  le : n ≤ n'
  small : n' ≤ 1281
  verdict : Verdict n ps s me st jv okv n' st'

theorem after_of {w wr w3 : World} {N G n : Nat} {ps : List Int} {s me st jv : Int} {okv : Bool} {g n' cap' : Nat} {st' : Int} (hN : N < w.heap.size) (hG : G < w.heap.size) (hb : Below w.heap.size w wr) (hbox : Box wr w.heap.size s)
    (hsrc : ∀ j, j < n → AddrAt w G j (ps.getD j 0))
    (S : Scene (wr.alloc (.cells (rdCells (.slice (some ⟨w.heap.size + 1, 0, none⟩) n n) st) 149)) N wr.heap.size (w.heap.size + 1) n n ps me st w.heap.size)
    (L : Left (wr.alloc (.cells (rdCells (.slice (some ⟨w.heap.size + 1, 0, none⟩) n n) st) 149)) w3 wr.heap.size (w.heap.size + 1) n ps s me st jv okv g n' cap' st') :
    After w w3 N G wr.heap.size n ps s me st jv okv g n' cap' st' := by
  have s1 := lt_of_block hbox
  have hbW : Below w.heap.size w (wr.alloc (.cells (rdCells (.slice (some ⟨w.heap.size + 1, 0, none⟩) n n) st) 149)) := hb.alloc (by omega) _
  have hb3 : Below w.heap.size w w3 := hbW.trans (L.away.below (by simp; omega) (by omega) (by omega))
  have hbx : Box w3 w.heap.size s := by
    unfold Box
    rw [L.away.block _ (by simp; omega) (by omega) (by omega), Below.heap_alloc _ _ _ s1]
    exact hbox
  obtain ⟨x0, x1, x2, x3⟩ := box_cells hbx
  have hn : ∀ i, w3.cell? ⟨N, i, none⟩ = (wr.alloc (.cells (rdCells (.slice (some ⟨w.heap.size + 1, 0, none⟩) n n) st) 149)).cell? ⟨N, i, none⟩ := fun i => L.away.cell (p := ⟨N, i, none⟩) (by simp; omega) (by show N ≠ _; omega) (by show N ≠ _; omega)
  exact ⟨L.r2, L.r14, (hn _).trans S.s0, (hn _).trans S.s1, (hn _).trans S.s2, (hn _).trans S.s3, x0, x1, x2, x3, L.frames, fun j hj => (hsrc j hj).congr fun i => hb3.cell (p := ⟨G, i, none⟩) hG, hb3, L.le, L.small, L.verdict⟩

theorem getD_left {ps : List Int} {s : Int} {n j : Nat} (hl : ps.length = n) (hj : j < n) : (ps ++ [s]).getD j 0 = ps.getD j 0 := by
  simp [List.getD, List.getElem?_append_left (show j < ps.length by omega)]
theorem getD_last {ps : List Int} {s : Int} {n : Nat} (hl : ps.length = n) : (ps ++ [s]).getD n 0 = s := by
  subst hl
  simp [List.getD]

/-- On the way on which the source was found among the old frames. -/
theorem verdict_hit {n j : Nat} {ps : List Int} {s me st jv st' : Int} {okv : Bool} {n' : Nat} (hv : Verdict n ps s me st jv okv n' st') (hj : j < n) (hp : ps.getD j 0 = s) (hf : ∀ i, i < j → ps.getD i 0 ≠ s) : jv = j ∧ okv = true ∧ n' = n ∧ st' = st := by
  rcases hv with ⟨i, hi, hpi, hfi, h⟩ | ⟨h, _⟩ | ⟨h, _⟩ | ⟨h, _⟩ | ⟨h, _⟩
  · have : i = j := by
      rcases Nat.lt_trichotomy i j with h | h | h
      · exact absurd hpi (hf i h)
      · exact h
      · exact absurd hp (hfi j h)
    subst this
    exact h
  · exact absurd hp (h j hj)
  · exact absurd hp (h j hj)
  · exact absurd hp (h j hj)
  · exact absurd hp (h j hj)
theorem verdict_miss {n : Nat} {ps : List Int} {s me st jv st' : Int} {okv : Bool} {n' : Nat} (hv : Verdict n ps s me st jv okv n' st') (hf : ∀ i, i < n → ps.getD i 0 ≠ s) :
    (s = me ∧ jv = 0 ∧ okv = false ∧ n' = n ∧ st' = st) ∨ (s ≠ me ∧ 256 ≤ n ∧ jv = 0 ∧ okv = false ∧ n' = n ∧ st' = st) ∨ (s ≠ me ∧ n < 256 ∧ st = 8 ∧ jv = 0 ∧ okv = false ∧ n' = n ∧ st' = st) ∨
    (s ≠ me ∧ n < 256 ∧ st ≠ 8 ∧ jv = n ∧ okv = true ∧ n' = n + 1 ∧ st' = wrap64 (st + 1)) := by
  rcases hv with ⟨i, hi, hpi, _⟩ | ⟨_, h⟩ | ⟨_, h⟩ | ⟨_, h⟩ | ⟨_, h⟩
  · exact absurd hpi (hf i hi)
  · exact .inl h
  · exact .inr (.inl h)
  · exact .inr (.inr (.inl h))
  · exact .inr (.inr (.inr h))

set_option maxHeartbeats 2000000 in
set_option maxRecDepth 100000 in
theorem check_any (N G n capG : Nat) (ps : List Int) (s me st : Int) (w : World) (hn : n ≤ 1280) (hlen : Hid (ps.length = n)) (hN : N < w.heap.size) (hG : G < w.heap.size)
    (hsrc : Hid (∀ j, j < n → AddrAt w G j (ps.getD j 0)))
    (n0 : w.cell? ⟨N, 26, none⟩ = some (.int .u64 0)) (n1 : w.cell? ⟨N, 27, none⟩ = some (.int .u64 0)) (n2 : w.cell? ⟨N, 28, none⟩ = some (.pointer none)) (n3 : w.cell? ⟨N, 29, none⟩ = some (.int .u16 me)) (nm : w.cell? ⟨N, 36, none⟩ = some (.map none)) :
    Calls Yba.prog 12 #[.pointer (some ⟨N, 0, none⟩), .slice (some ⟨G, 0, none⟩) n capG, .agg #[.int .u64 0, .int .u64 0, .pointer none, .int .u16 s], .int .i64 st, .bool true] w fun e w' =>
      e = .returned (.bool true) ∧ Below w.heap.size w w' := by
  obtain ⟨i0, hi, hz0, hz1, hz2⟩ := info_parts info137
  go_enter Yba.func12, Yba.ntmps12
  go_wp2_with (first
    | (at_make; (refine wpList_make_full _ rfl (.tmp 22) (.tmp 22) 135 rfl w.heap.size 137 i0 _ 5 Yba.underlying135 hi hz0 hz1 .i64 .i64 _ _ n rfl rfl rfl rfl (by rw [hz2]; omega) (by unfold maxLen; omega) (by simp) ?_); intro w1 hown hgrow; (have hrow : Row w1 w.heap.size (w.heap.size + 1) n (qs ps n 0) := row_made (by simpa using hown) rfl ps))
    | fail)
  have hb1 : Below w.heap.size w w1 := ((Below.refl _ _).alloc (Nat.le_refl _) _).grown hgrow (by simp) (fun _ h => by cases h)
  have hx1 : Box w1 w.heap.size s := by
    unfold Box
    rw [hgrow.block _ (by simp) (by simp), heap_alloc_new]
  clear hown hgrow hi hz0 hz1 hz2
  go_loopw [12] (fun i wr => ∃ k : Nat, k ≤ n ∧ i = .int .i64 k ∧ Row wr w.heap.size (w.heap.size + 1) n (qs ps n k) ∧ Box wr w.heap.size s ∧ Below w.heap.size w wr) (fun i _ => n - (intOf i).toNat)
  case atStart => exact ⟨0, Nat.zero_le _, rfl, hrow, hx1, hb1⟩
  case round =>
    obtain ⟨k, hk, rfl, hrowr, hboxr, hbr⟩ := hrel
    clear hrow hx1 hb1
    by_cases hlt : k < n
    · obtain ⟨a0, a1, a2, a3⟩ := (hsrc.out k hlt).congr (fun i => hbr.cell (p := ⟨G, i, none⟩) hG)
      obtain ⟨⟨v0, e0⟩, ⟨v1, e1⟩, ⟨v2, e2⟩, ⟨v3, e3⟩, ⟨v4, e4⟩, hfz⟩ := row_cells hrowr (qs_length ps n k hlen.out hk) hlt
      obtain ⟨p, hp⟩ : ∃ p, ps.getD k 0 = p := ⟨_, rfl⟩
      have R := row_step' hlen.out hlt hp hrowr
      have HR : Hid _ := R
      rw [hp] at a3
      clear hp R hsrc n0 n1 n2 n3 nm
      go_wp2_with fail
      go_roundw
      case rel => exact ⟨k + 1, by omega, by go_num, HR.out, box_set (box_set (box_set (box_set (box_set hboxr (by omega)) (by omega)) (by omega)) (by omega)) (by omega), ((((hbr.setCell (by simp) _).setCell (by simp) _).setCell (by simp) _).setCell (by simp) _).setCell (by simp) _⟩
      case measure => simp [intOf]; omega
    · obtain rfl : k = n := by omega
      clear hlt hk
      obtain ⟨x0, x1, x2, x3⟩ := box_cells hboxr
      have s1 := lt_of_block hboxr
      have s2 := row_lt hrowr
      have S := scene_of (st := st) hn hlen.out hN hbr s1 hrowr n0 n1 n2 n3 nm
      go_wp2_with fail
      refine (frame_any S s).mono ?_
      rintro e w3 ⟨jv, okv, g, n', cap', st', rfl, L⟩
      obtain ⟨r2, r14, m0, m1, m2, m3, y0, y1, y2, y3, hframes, haddrs, hb3, hle, hsm, hver⟩ := after_of hN hG hbr hboxr hsrc.out S L
      have HF : Hid (∀ j, j < k → FrameAt w3 g j (ps.getD j 0)) := fun j hj => by
        have := hframes j (by omega)
        rwa [getD_left hlen.out hj] at this
      have HL : Hid (k < n' → FrameAt w3 g k s) := fun h => by
        have := hframes k h
        rwa [getD_last hlen.out] at this
      have HA : Hid _ := haddrs
      have HV : Hid (Verdict k ps s me st jv okv n' st') := hver
      clear S L hframes haddrs hver hboxr hrowr x0 x1 x2 x3 n0 n1 n2 n3 nm hsrc hlen hbr
      have hdk : decide (n' < k) = false := by simp; omega
      have hnil := nil_eq
      have hneq := fun wx => run_neq_slice_nil_any (P := Yba.prog) wx 30 5 none 0 0 0 0 Yba.underlying30
      go_wp2_with fail
      go_loopw [16] (fun i wx => ∃ (j q : Nat), j ≤ k ∧ i = .int .i64 j ∧ wx = w3.drewN q) (fun i _ => k - (intOf i).toNat)
      case atStart => exact ⟨0, 0, Nat.zero_le _, rfl, rfl⟩
      case round =>
        obtain ⟨j, q, hj, rfl, rfl⟩ := hrel
        by_cases hjk : j < k
        · obtain ⟨f0, f1, f2, f3, f4⟩ := HF.out j hjk
          obtain ⟨a0, a1, a2, a3⟩ := HA.out j hjk
          generalize ps.getD j 0 = p at f3 a3
          have hj0 : (0 : Int) ≤ (j : Int) := by omega
          have hj1 : (j : Int) < (k : Int) := by omega
          have hj2 : (j : Int) < (n' : Int) := by omega
          go_wp2_with fail
          go_quiet (fail)
          go_wp2_with fail
          go_roundw
          case rel => exact ⟨j + 1, _, by omega, by go_num, rfl⟩
          case measure => simp [intOf]; omega
        · obtain rfl : j = k := by omega
          clear hj hjk hdk HF
          go_wp2_with fail
          go_loopw [17, 18] (fun f i wx => ∃ (m t : Nat), m ≤ j ∧ f = .int .i64 (-1) ∧ i = .int .i64 m ∧ wx = w3.drewN t ∧ ∀ i, i < m → ps.getD i 0 ≠ s) (fun _ i _ => j - (intOf i).toNat)
          case atStart => exact ⟨0, q, Nat.zero_le _, rfl, rfl, rfl, fun i h => absurd h (by omega)⟩
          case round =>
            obtain ⟨m, t, hm, rfl, rfl, rfl, hno⟩ := hrel
            have HN : Hid (∀ i, i < m → ps.getD i 0 ≠ s) := hno
            clear hno
            by_cases hmj : m < j
            · obtain ⟨a0, a1, a2, a3⟩ := HA.out m hmj
              have hm0 : (0 : Int) ≤ (m : Int) := by omega
              have hm1 : (m : Int) < (j : Int) := by omega
              by_cases hp : ps.getD m 0 = s
              · obtain ⟨rfl, rfl, rfl, rfl⟩ := verdict_hit HV.out hmj hp HN.out
                clear HV HL
                rw [hp] at a3
                clear hp HA
                go_wp2_with fail
                go_quiet (fail)
                go_wp2_with fail
                go_ret
                exact ⟨rfl, below_drewN hb3 _⟩
              · have hpb : (ps.getD m 0 == s) = false := by simpa using hp
                have HP : Hid _ := hp
                clear hp
                generalize ps.getD m 0 = p at a3 hpb
                go_wp2_with fail
                go_quiet (fail)
                go_wp2_with fail
                go_roundw
                case rel => exact ⟨m + 1, _, by omega, rfl, by go_num, rfl, fun i hi => by
                  by_cases h : i < m
                  · exact HN.out i h
                  · obtain rfl : i = m := by omega
                    exact HP.out⟩
                case measure => simp [intOf]; omega
            · obtain rfl : m = j := by omega
              clear HA hm hmj
              rcases verdict_miss HV.out HN.out with ⟨hme, rfl, rfl, rfl, rfl⟩ | ⟨hme, hbig, rfl, rfl, rfl, rfl⟩ | ⟨hme, hbig, hst, rfl, rfl, rfl, rfl⟩ | ⟨hme, hbig, hst, rfl, rfl, rfl, rfl⟩
              · have hmb : (s == me) = true := by simpa using hme
                clear hme HV HL HN
                go_wp2_with fail
                go_quiet (fail)
                go_wp2_with fail
                go_ret
                exact ⟨rfl, below_drewN hb3 _⟩
              · have hmb : (s == me) = false := by simpa using hme
                clear hme HV HL HN
                go_wp2_with fail
                go_quiet (fail)
                go_wp2_with fail
                go_ret
                exact ⟨rfl, below_drewN hb3 _⟩
              · have hmb : (s == me) = false := by simpa using hme
                have hsb : (st' == 8) = true := by simpa using hst
                clear hme HV HL HN hst
                go_wp2_with fail
                go_quiet (fail)
                go_wp2_with fail
                go_ret
                exact ⟨rfl, below_drewN hb3 _⟩
              · have hmb : (s == me) = false := by simpa using hme
                have hsb : (st == 8) = false := by simpa using hst
                obtain ⟨f0, f1, f2, f3, f4⟩ := HL.out (by omega)
                clear hme HV HL HN hst
                have heql : ∀ wx, (binOp .eql 30 (.slice none 0 0) (.slice none 0 0)).run Yba.prog wx = .ok (.bool true) wx := fun _ => by kernel_rfl
                go_wp2_with fail
                go_quiet (fail)
                go_wp2_with fail
                go_quiet (fail)
                go_wp2_with fail
                go_ret
                exact ⟨rfl, below_drewN (below_drewN hb3 _) _⟩
end Go.Proofs.Ybulkbmxm.lawS3184CStranger
