/- tiergate.LawS3185C..: the roles as they come in; what only reads them. -/
import Derived.Test.YbulkbmyaRows
import Derived.WalkKit
import Derived.WalkSpells
namespace Go.Proofs.Ybulkbmya.laws
open Go.RowKit

/-- The roles' lists of keys as they lie in memory: the outer slice's address, n lists; list j: its address, length, capacity; its i-th key. -/
structure Lists where
  a : Option Addr
  n : Nat
  ka : Nat → Option Addr
  L : Nat → Nat
  kc : Nat → Nat
  K : Nat → Nat → ByteArray

/-- Where list j lies. -/
def Lists.RowAt (R : Lists) (w : World) (j : Nat) : Prop := ∃ b o, R.a = some ⟨b, o, none⟩ ∧ b < w.heap.size ∧ w.cell? ⟨b, o + j, none⟩ = some (.slice (R.ka j) (R.L j) (R.kc j))
/-- Where key i of list j lies. -/
def Lists.KeyAt (R : Lists) (w : World) (j i : Nat) : Prop := ∃ b o, R.ka j = some ⟨b, o, none⟩ ∧ b < w.heap.size ∧ w.cell? ⟨b, o + i, none⟩ = some (.string (R.K j i))

structure Lists.In (R : Lists) (w : World) : Prop where
  row : ∀ j, j < R.n → R.RowAt w j
  key : ∀ j, j < R.n → ∀ i, i < R.L j → R.KeyAt w j i
  nil : ∀ j, j < R.n → R.ka j = none → R.L j = 0
  size : ∀ j, j < R.n → ∀ i, i < R.L j → (R.K j i).size ≤ maxLen
  big : R.n ≤ 9223372036854775807
  bigs : ∀ j, j < R.n → R.L j ≤ 9223372036854775807

theorem Lists.In.below {R : Lists} {w w' : World} (h : R.In w) (hb : Below w.heap.size w w') : R.In w' := by
  have s := hb.size
  refine ⟨fun j hj => ?_, fun j hj i hi => ?_, h.nil, h.size, h.big, h.bigs⟩
  · obtain ⟨b, o, h1, h2, h3⟩ := h.row j hj
    exact ⟨b, o, h1, by omega, (hb.cell (p := ⟨b, o + j, none⟩) h2).trans h3⟩
  · obtain ⟨b, o, h1, h2, h3⟩ := h.key j hj i hi
    exact ⟨b, o, h1, by omega, (hb.cell (p := ⟨b, o + i, none⟩) h2).trans h3⟩

theorem Lists.In.keys {R : Lists} {w : World} (h : R.In w) {j : Nat} (hj : j < R.n) (h0 : 0 < R.L j) : ∃ b o, R.ka j = some ⟨b, o, none⟩ ∧ b < w.heap.size ∧ ∀ i, i < R.L j → w.cell? ⟨b, o + i, none⟩ = some (.string (R.K j i)) := by
  obtain ⟨b, o, h1, h2, _⟩ := h.key j hj 0 h0
  refine ⟨b, o, h1, h2, fun i hi => ?_⟩
  obtain ⟨b', o', h1', _, h3'⟩ := h.key j hj i hi
  rw [h1] at h1'
  simp at h1'
  obtain ⟨rfl, rfl⟩ := h1'
  exact h3'

/-- List j has the key s. -/
def Lists.Has (R : Lists) (j : Nat) (s : ByteArray) : Prop := ∃ i, i < R.L j ∧ R.K j i = s
/-- One of the first m lists has the key s. -/
def Lists.Any (R : Lists) (m : Nat) (s : ByteArray) : Prop := ∃ j, j < m ∧ R.Has j s

set_option maxHeartbeats 400000 in
set_option maxRecDepth 100000 in
/-- Small enough: at most 256 lists of at most 256 keys. -/
theorem big_any (R : Lists) (cap : Nat) (w : World) (h : Hid (R.In w)) (hbig : R.n ≤ 9223372036854775807) :
    Calls Yba.prog 5 #[.slice R.a R.n cap] w fun e w' => (e = .returned (.bool true) ∨ (e = .returned (.bool false) ∧ R.n ≤ 256 ∧ ∀ j, j < R.n → R.L j ≤ 256)) ∧ w = w' := by
  obtain ⟨a, n, ka, L, kc, K⟩ := R
  simp only at *
  by_cases hn : 256 < n
  · go_enter Yba.func5, Yba.ntmps5
    go_wp2
    go_ret
    exact ⟨.inl rfl, rfl⟩
  · go_enter Yba.func5, Yba.ntmps5
    go_wp2
    go_loop [10] (fun i => ∃ k : Nat, k ≤ n ∧ i = .int .i64 k ∧ ∀ j, j < k → L j ≤ 256) (fun i => n - (intOf i).toNat)
    case atStart => exact ⟨0, Nat.zero_le _, rfl, fun j h => by omega⟩
    case round =>
      obtain ⟨k, hk, rfl, hall⟩ := hrel
      have HA : Hid (∀ j, j < k → L j ≤ 256) := hall
      clear hall
      by_cases hlt : k < n
      · obtain ⟨b, o, ha, hb, hc⟩ := h.out.row k hlt
        have hLk := h.out.bigs k hlt
        simp only at ha hc hLk
        subst ha
        by_cases hL : 256 < L k
        · generalize L k = Lk at hL hc hLk
          go_wp2
          go_ret
          exact ⟨.inl rfl, rfl⟩
        · have HL : Hid (L k ≤ 256) := show L k ≤ 256 by omega
          generalize L k = Lk at hL hc hLk
          go_wp2
          go_round
          case rel => exact ⟨k + 1, by omega, by go_num, fun j hj => by
            by_cases e : j = k
            · subst e; exact HL.out
            · exact HA.out j (by omega)⟩
          case measure => simp [intOf]; omega
      · obtain rfl : k = n := by omega
        go_wp2
        go_ret
        exact ⟨.inr ⟨rfl, by omega, HA.out⟩, rfl⟩

theorem ne_bytes {a b : ByteArray} (h : a ≠ b) : (a.toList == b.toList) = false := by
  refine beq_eq_false_iff_ne.2 fun e => h ?_
  rw [ByteArray.toList_eq, ByteArray.toList_eq] at e
  exact ByteArray.ext (Array.toList_inj.1 e)

set_option maxHeartbeats 400000 in
set_option maxRecDepth 100000 in
theorem has_either (R : Lists) (cap : Nat) (s : ByteArray) (w : World) (h : Hid (R.In w)) (hbig : R.n ≤ 256) (hbigs : Hid (∀ j, j < R.n → R.L j ≤ 256)) :
    Calls Yba.prog 9 #[.slice R.a R.n cap, .string s] w fun e w' => ((R.Any R.n s ∧ e = .returned (.bool true)) ∨ (¬ R.Any R.n s ∧ e = .returned (.bool false))) ∧ w = w' := by
  obtain ⟨a, n, ka, L, kc, K⟩ := R
  simp only at *
  go_enter Yba.func9, Yba.ntmps9
  go_wp2
  go_loop [11] (fun i => ∃ k : Nat, k ≤ n ∧ i = .int .i64 k ∧ ¬ Lists.Any ⟨a, n, ka, L, kc, K⟩ k s) (fun i => n - (intOf i).toNat)
  case atStart => exact ⟨0, Nat.zero_le _, rfl, fun ⟨j, hj, _⟩ => by omega⟩
  case round =>
    obtain ⟨k, hk, rfl, hno⟩ := hrel
    have HN : Hid (¬ Lists.Any ⟨a, n, ka, L, kc, K⟩ k s) := hno
    clear hno
    by_cases hlt : k < n
    · obtain ⟨b, o, ha, hb, hc⟩ := h.out.row k hlt
      have hLk := hbigs.out k hlt
      simp only at ha hc hLk
      subst ha
      have hkeys := fun h0 => h.out.keys (j := k) hlt h0
      simp only at hkeys
      obtain ⟨Lk, hLe⟩ : ∃ x, L k = x := ⟨_, rfl⟩
      obtain ⟨kk, hke⟩ : ∃ x, ka k = x := ⟨_, rfl⟩
      rw [hLe] at hc hLk hkeys
      rw [hke] at hc hkeys
      have HLe : Hid (L k = Lk) := hLe
      clear hLe hke
      by_cases hL0 : 0 < Lk
      · obtain ⟨b2, o2, rfl, hb2, hkc⟩ := hkeys hL0
        have HKC : Hid (∀ i, i < Lk → w.cell? ⟨b2, o2 + i, none⟩ = some (.string (K k i))) := hkc
        clear hkeys hkc
        go_wp2_with fail
        go_loop [17] (fun i => ∃ m : Nat, m ≤ Lk ∧ i = .int .i64 m ∧ ∀ i, i < m → K k i ≠ s) (fun i => Lk - (intOf i).toNat)
        case atStart => exact ⟨0, Nat.zero_le _, rfl, fun j h => by omega⟩
        case round =>
          obtain ⟨m, hm, rfl, hno⟩ := hrel
          have HM : Hid (∀ i, i < m → K k i ≠ s) := hno
          clear hno
          by_cases hml : m < Lk
          · have hc2 := HKC.out m hml
            by_cases hks : K k m = s
            · have HF : Hid (K k m = s) := hks
              rw [hks] at hc2
              clear hks
              go_wp2_with fail
              go_ret
              exact ⟨.inl ⟨⟨k, hlt, m, by show m < L k; rw [HLe.out]; exact hml, HF.out⟩, rfl⟩, rfl⟩
            · have hkb := ne_bytes hks
              have HF : Hid (K k m ≠ s) := hks
              clear hks
              generalize K k m = km at hc2 hkb
              go_wp2_with fail
              go_round
              case rel => exact ⟨m + 1, by omega, by go_num, fun i hi => by
                by_cases e : i = m
                · subst e; exact HF.out
                · exact HM.out i (by omega)⟩
              case measure => simp [intOf]; omega
          · obtain rfl : m = Lk := by omega
            clear HKC
            go_wp2_with fail
            go_round
            case rel => exact ⟨k + 1, by omega, by go_num, fun ⟨j, hj, i, hi, e⟩ => by
              by_cases ejk : j = k
              · subst ejk; exact HM.out i (by rw [← HLe.out]; exact hi) e
              · exact HN.out ⟨j, by omega, i, hi, e⟩⟩
            case measure => simp [intOf]; omega
      · obtain rfl : Lk = 0 := by omega
        clear hkeys
        go_wp2_with fail
        go_loop [17] (fun i => i = .int .i64 0) (fun _ => 0)
        case atStart => rfl
        case round =>
          obtain rfl := hrel
          go_wp2_with fail
          go_round
          case rel => exact ⟨k + 1, by omega, by go_num, fun ⟨j, hj, i, hi, e⟩ => by
            by_cases ejk : j = k
            · subst ejk
              have h1 : i < L j := hi
              rw [HLe.out] at h1
              omega
            · exact HN.out ⟨j, by omega, i, hi, e⟩⟩
          case measure => simp [intOf]; omega
    · obtain rfl : k = n := by omega
      go_wp2_with fail
      go_ret
      exact ⟨.inr ⟨HN.out, rfl⟩, rfl⟩

theorem place_of (pick : Int) (x : Nat) (h0 : 0 ≤ pick) (h1 : pick ≤ 65535) (hx : 0 < x) : ∃ y : Nat, (wrap64 (IntKind.u16.wrap (pick.tdiv 2))).tmod ↑x = (y : Int) ∧ y < x := by
  have e0 : pick.tdiv 2 = pick / 2 := Int.tdiv_eq_ediv_of_nonneg h0
  have e1 : IntKind.u16.wrap (pick / 2) = pick / 2 := by show (pick / 2) % 65536 = _; omega
  have e2 : wrap64 (pick / 2) = pick / 2 := by unfold wrap64; omega
  rw [e0, e1, e2, Int.tmod_eq_emod_of_nonneg (by omega)]
  have h1 := Int.emod_nonneg (pick / 2) (show (x : Int) ≠ 0 by omega)
  have h2 := Int.emod_lt_of_pos (pick / 2) (show (0 : Int) < (x : Int) by omega)
  exact ⟨(pick / 2 % ↑x).toNat, by omega, by omega⟩

set_option maxHeartbeats 400000 in
set_option maxRecDepth 100000 in
theorem pick_any (R : Lists) (cap : Nat) (org : ByteArray) (pick : Int) (w : World) (h : Hid (R.In w)) (hbig : R.n ≤ 256) (hbigs : Hid (∀ j, j < R.n → R.L j ≤ 256)) (horg : org.size ≤ maxLen) (hp0 : 0 ≤ pick) (hp1 : pick ≤ 65535) :
    Calls Yba.prog 7 #[.slice R.a R.n cap, .string org, .int .u16 pick] w fun e w' => (∃ o : ByteArray, o.size ≤ maxLen ∧ e = .returned (.string o)) ∧ w = w' := by
  obtain ⟨a, n, ka, L, kc, K⟩ := R
  simp only at *
  have HO : Hid (org.size ≤ maxLen) := horg
  clear horg
  by_cases hpe : pick % 2 = 0
  · have hpb : (pick % 2 == 0) = true := by simpa using hpe
    clear hpe
    go_enter Yba.func7, Yba.ntmps7
    go_wp2
    go_ret
    exact ⟨⟨org, HO.out, rfl⟩, rfl⟩
  · have hpb : (pick % 2 == 0) = false := by simpa using hpe
    clear hpe
    go_enter Yba.func7, Yba.ntmps7
    go_wp2
    go_loop [7, 19] (fun t i => ∃ k x : Nat, k ≤ n ∧ x ≤ k * 256 ∧ t = .int .i64 x ∧ i = .int .i64 k) (fun _ i => n - (intOf i).toNat)
    case atStart => exact ⟨0, 0, Nat.zero_le _, Nat.zero_le _, rfl, rfl⟩
    case round =>
      obtain ⟨k, x, hk, hx, rfl, rfl⟩ := hrel
      by_cases hlt : k < n
      · obtain ⟨b, o, ha, hb, hc⟩ := h.out.row k hlt
        have hLk := hbigs.out k hlt
        simp only at ha hc hLk
        subst ha
        generalize L k = Lk at hc hLk
        generalize ka k = kk at hc
        go_wp2_with fail
        go_round
        case rel => exact ⟨k + 1, x + Lk, by omega, by omega, by go_num, by go_num⟩
        case measure => simp [intOf]; omega
      · obtain rfl : k = n := by omega
        clear hlt hk
        by_cases hx0 : x = 0
        · subst hx0
          go_wp2_with fail
          go_ret
          exact ⟨⟨org, HO.out, rfl⟩, rfl⟩
        · have hx1 : 0 < x := by omega
          clear hx0
          obtain ⟨y, hy, hyx⟩ := place_of pick x hp0 hp1 hx1
          have HY : Hid ((wrap64 (IntKind.u16.wrap (pick.tdiv 2))).tmod ↑x = (y : Int)) := hy
          clear hy
          go_wp2_with fail
          go_loop [10, 38] (fun t i => ∃ m z : Nat, m ≤ k ∧ z ≤ 70000 ∧ t = .int .i64 z ∧ i = .int .i64 m) (fun _ i => k - (intOf i).toNat)
          case atStart => exact ⟨0, y, Nat.zero_le _, by omega, by rw [HY.out], rfl⟩
          case round =>
            obtain ⟨m, z, hm, hz, rfl, rfl⟩ := hrel
            by_cases hlt : m < k
            · obtain ⟨b, o, ha, hb, hc⟩ := h.out.row m hlt
              have hLk := hbigs.out m hlt
              have hkeys := fun h0 => h.out.keys (j := m) hlt h0
              have hsz := fun i hi => h.out.size m hlt i hi
              simp only at ha hc hLk hkeys hsz
              subst ha
              obtain ⟨Lk, hLe⟩ : ∃ x, L m = x := ⟨_, rfl⟩
              obtain ⟨kk, hke⟩ : ∃ x, ka m = x := ⟨_, rfl⟩
              rw [hLe] at hc hLk hkeys hsz
              rw [hke] at hc hkeys
              clear hLe hke
              by_cases hzl : z < Lk
              · obtain ⟨b2, o2, rfl, hb2, hkc⟩ := hkeys (by omega)
                have hc2 := hkc z hzl
                have HS : Hid ((K m z).size ≤ maxLen) := hsz z hzl
                clear hkeys hkc hsz
                go_wp2_with fail
                go_ret
                exact ⟨⟨_, HS.out, rfl⟩, rfl⟩
              · clear hkeys hsz
                go_wp2_with fail
                go_round
                case rel => exact ⟨m + 1, z - Lk, by omega, by omega, by go_num, by go_num⟩
                case measure => simp [intOf]; omega
            · obtain rfl : m = k := by omega
              go_wp2_with fail
              go_ret
              exact ⟨⟨org, HO.out, rfl⟩, rfl⟩
end Go.Proofs.Ybulkbmya.laws
