/- rumorwire.zzs3184cbuild: it hands back a fresh slice of at most 1280 addresses without an ip; which, nobody asks. -/
import Derived.Test.YbulkbmxmStrA
namespace Go.Proofs.Ybulkbmxm.lawS3184CStranger
open Go.RowKit

/-- An address without an ip: its four cells. -/
def ap (p : Int) : List Value := [.int .u64 0, .int .u64 0, .pointer none, .int .u16 p]
def flat (ps : List Int) : List Value := ps.flatMap ap
theorem flat_snoc (ps : List Int) (p : Int) : flat (ps ++ [p]) = flat ps ++ ap p := by simp [flat]
theorem flat_length (ps : List Int) : (flat ps).length = ps.length * 4 := by
  induction ps with
  | nil => rfl
  | cons p ps ih =>
    have : flat (p :: ps) = ap p ++ flat ps := by simp [flat]
    rw [this, List.length_append, ih]
    simp [ap]; omega
theorem ap_one (p : Int) : ∀ u ∈ ap p, u.oneCell' = true := by
  intro u hu
  simp [ap] at hu
  rcases hu with rfl | rfl | rfl <;> rfl

def lenOf : Value → Nat | .slice _ n _ => n | _ => 0

theorem info50 : (Yba.prog.info? 50).map (fun i => (i.zero, i.size, i.bytes)) = some (some (.agg #[.int .u64 0, .int .u64 0, .pointer none, .int .u16 0]), 4, 32) := by kernel_rfl

theorem owns_below {w w' : World} {base e size n : Nat} {v : Value} {xs : List Value} (h : w.ownsRow base e size v n xs) (hb : Below w.heap.size w w') : w'.ownsRow base e size v n xs := by
  obtain ⟨h1, h2⟩ := h
  refine ⟨h1, ?_⟩
  rcases h2 with h2 | ⟨g, cap, cur, hv, hg, hh, r⟩
  · exact Or.inl h2
  · exact Or.inr ⟨g, cap, cur, hv, hg, by rw [hb.block g (lt_of_block hh)]; exact hh, r⟩

theorem new4 (w : World) (p : Int) : ∀ j u, (ap p)[j]? = some u → (w.alloc (.cells #[.int .u64 0, .int .u64 0, .pointer none, .int .u16 p] 50)).cell? ((⟨w.heap.size, 0, none⟩ : Addr).add j) = some u := by
  intro j u h
  have e : (⟨w.heap.size, 0, none⟩ : Addr).add j = ⟨w.heap.size, j, none⟩ := by
    rw [Go.WideShapes.add_plain, Nat.zero_add]
  rw [e, World.cell?_alloc_at _ _ _ _ rfl, ← h]
  simp [ap]

theorem step_rel {w wr w1 w2 : World} {k cap : Nat} {ps : List Int} {p : Int} (hbel : Below w.heap.size w wr) (hb : Below wr.heap.size wr w1)
    (hown2 : w2.ownsRow w.heap.size 50 4 (.slice (some ⟨w.heap.size, 0, none⟩) (k + 1) cap) (k + 1) (flat ps ++ ap p))
    (hgrow : (w1.alloc (.cells #[.int .u64 0, .int .u64 0, .pointer none, .int .u16 p] 50)).grownBy w2 (some w.heap.size)) :
    w2.ownsRow w.heap.size 50 4 (.slice (some ⟨w.heap.size, 0, none⟩) (k + 1) cap) (k + 1) (flat (ps ++ [p])) ∧ Below w.heap.size w w2 := by
  have s1 := hbel.size
  have s2 := hb.size
  refine ⟨by rw [flat_snoc]; exact hown2, ?_⟩
  exact ((hbel.trans (hb.mono s1)).alloc (by omega) _).grown hgrow (by simp; omega) (fun k hk => by cases hk; exact Nat.le_refl _)

set_option maxHeartbeats 1000000 in
set_option maxRecDepth 100000 in
theorem build_any (a : Option Addr) (len cap : Nat) (fill : Int) (w : World) (hlen : len ≤ 1024) (hf0 : 0 ≤ fill) (hf1 : fill ≤ 255)
    (hc : Hid (∀ j, j < len → ∃ b o z, a = some ⟨b, o, none⟩ ∧ b < w.heap.size ∧ w.cell? ⟨b, o + j, none⟩ = some (.int .u16 z))) :
    Calls Yba.prog 10 #[.slice a len cap, .int .u8 fill] w fun e w' => ∃ (n : Nat) (ps : List Int), e = .returned (.slice (some ⟨w.heap.size, 0, none⟩) n (256 + len)) ∧ ps.length = n ∧ n ≤ 1280 ∧
      w'.ownsRow w.heap.size 50 4 (.slice (some ⟨w.heap.size, 0, none⟩) n (256 + len)) n (flat ps) ∧ Below w.heap.size w w' := by
  obtain ⟨i0, hi, hz0, hz1, hz2⟩ := info_parts info50
  go_enter Yba.func10, Yba.ntmps10
  go_wp2_with (first
    | (at_make; refine wpList_make_own _ rfl (.const (.int .i64 0)) (.tmp 11) 38 rfl w.heap.size 50 i0 _ 4 Yba.underlying38 hi hz0 hz1 .i64 .i64 _ (256 + len) rfl rfl (by omega) (by rw [hz2]; omega) (by unfold maxLen; omega) (Nat.le_refl _) ?_; intro w1 hown hgrow)
    | fail)
  go_loopw [5, 15] (fun v i wr => ∃ (k : Nat) (ps : List Int), k ≤ len ∧ ps.length = k ∧ i = .int .i64 k ∧ v = .slice (some ⟨w.heap.size, 0, none⟩) k (256 + len) ∧ wr.ownsRow w.heap.size 50 4 (.slice (some ⟨w.heap.size, 0, none⟩) k (256 + len)) k (flat ps) ∧ Below w.heap.size w wr) (fun _ i _ => len - (intOf i).toNat)
  case atStart => exact ⟨0, [], Nat.zero_le _, rfl, rfl, rfl, hown, (Below.refl _ _).grown hgrow (Nat.le_refl _) (fun _ h => by cases h)⟩
  case round =>
    obtain ⟨k, ps, hk, hps, rfl, rfl, hown', hbel⟩ := hrel
    have HP : Hid _ := hps
    clear hps hown hgrow
    have s1 := hbel.size
    by_cases hlt : k < len
    · obtain ⟨b, o, z, rfl, hb, hz⟩ := hc.out k hlt
      have hcell := (hbel.cell (p := ⟨b, o + k, none⟩) hb).trans hz
      clear hc hz
      go_wp2_with (first
        | (go_at_call 11; refine (addr_any _ _).mono ?_; rintro e w2 ⟨rfl, hb2⟩; have s2 := hb2.size)
        | (at_builtin; refine wpList_append_fits _ rfl (.tmp 19) (.tmp 22) 38 rfl w.heap.size 50 i0 4 Yba.underlying38 hi hz1 w.heap.size k (256 + len) (flat ps) rfl ((owns_below hown' hb2).alloc _) ⟨w2.heap.size, 0, none⟩ 1 1 (ap z) rfl rfl (new4 _ _) (ap_one _) (by omega) ?_; intro w3 hown3 hgrow3; have R := step_rel hbel hb2 hown3 hgrow3; clear hown3 hgrow3))
      go_roundw
      case rel => exact ⟨k + 1, ps ++ [z], by omega, by simp [HP.out], by go_num, rfl, R.1, R.2⟩
      case measure => simp [intOf]; omega
    · obtain rfl : k = len := by omega
      clear hc
      by_cases hf : fill % 4 = 0
      · have hfb : (fill % 4 == 0) = true := by simpa using hf
        clear hf
        go_wp2_with fail
        go_loopw [5, 8] (fun v i wx => ∃ (m : Nat) (qs : List Int) (q : Int), m ≤ 256 + k ∧ m ≤ 1280 ∧ qs.length = m ∧ i = .int .i64 q ∧ v = .slice (some ⟨w.heap.size, 0, none⟩) m (256 + k) ∧ wx.ownsRow w.heap.size 50 4 (.slice (some ⟨w.heap.size, 0, none⟩) m (256 + k)) m (flat qs) ∧ Below w.heap.size w wx) (fun v _ _ => 256 - lenOf v)
        case atStart => exact ⟨k, ps, 0, by omega, by omega, HP.out, rfl, rfl, hown', hbel⟩
        case round =>
          obtain ⟨m, qs, q, hm, hm2, hqs, rfl, rfl, hownx, hbelx⟩ := hrel
          have HQ : Hid _ := hqs
          clear hqs hown' hbel HP
          have s3 := hbelx.size
          by_cases hmt : m < 256
          · go_wp2_with (first
              | (go_at_call 11; refine (addr_any _ _).mono ?_; rintro e w2 ⟨rfl, hb2⟩; have s2 := hb2.size)
              | (at_builtin; refine wpList_append_fits _ rfl (.tmp 33) (.tmp 38) 38 rfl w.heap.size 50 i0 4 Yba.underlying38 hi hz1 w.heap.size m (256 + k) (flat qs) rfl ((owns_below hownx hb2).alloc _) ⟨w2.heap.size, 0, none⟩ 1 1 (ap _) rfl rfl (new4 _ _) (ap_one _) (by omega) ?_; intro w3 hown3 hgrow3; have R := step_rel hbelx hb2 hown3 hgrow3; clear hown3 hgrow3))
            go_roundw
            case rel => exact ⟨m + 1, qs ++ [_], _, by omega, by omega, by simp [HQ.out], rfl, rfl, R.1, R.2⟩
            case measure => simp only [lenOf]; omega
          · go_wp2_with fail
            go_ret
            exact ⟨m, qs, rfl, HQ.out, by omega, hownx, hbelx⟩
      · have hfb : (fill % 4 == 0) = false := by simpa using hf
        clear hf
        go_wp2_with fail
        go_ret
        exact ⟨k, ps, rfl, HP.out, by omega, hown', hbel⟩
end Go.Proofs.Ybulkbmxm.lawS3184CStranger
