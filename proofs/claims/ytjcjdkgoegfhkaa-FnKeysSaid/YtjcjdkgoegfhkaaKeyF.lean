/- The walk of spec.SameTexts on two slices that hold the same texts, and the law FnKeys walked: it returns true. Conditions: the argument is a string. -/
import Derived.Test.YtjcjdkgoegfhkaaKeyE
namespace Go.Proofs.Ytjcjdkgoegfhkaa.Seg
open Go.RowKit

def SamePost (w : World) (e : Ending) (w' : World) : Prop := e = .returned (.bool true) ∧ ∃ n, w' = w.drewN n

theorem below_drewN {B : Nat} {a w : World} (h : Below B a w) (n : Nat) : Below B a (w.drewN n) := ⟨h.os, h.tape, h.output, h.size, h.block⟩

theorem keyRun_len : ∀ (f : Nat) (s : ByteArray) (K L : List ByteArray), keyRun f s K = some L → L.length ≤ K.length + s.size
  | 0, s, K, L, h => by simp [keyRun] at h
  | f + 1, s, K, L, h => by
    rw [keyRun] at h
    cases hg : segOf s with
    | none => rw [hg] at h; simp at h
    | some p =>
      rw [hg] at h
      dsimp only at h
      rcases seg_places hg with ⟨hk, _, _⟩ | ⟨hk, hp1, hp2, hp3⟩
      · rw [if_pos hk] at h; simp at h; subst h; omega
      · rw [if_neg hk] at h
        by_cases hd : hasKey K p.key = true
        · rw [if_pos hd] at h; simp at h
        · rw [if_neg hd] at h
          have := keyRun_len f _ _ _ h
          simp at this
          omega

theorem rd_drewN {w : World} {a : Option Addr} {K : List ByteArray} (h : Rd w a K) (n : Nat) : Rd (w.drewN n) a K := fun j hj => by
  obtain ⟨b, off, e, hb, hc⟩ := h j hj
  exact ⟨b, off, e, by simpa using hb, by simpa using hc⟩

set_option maxRecDepth 100000 in
set_option maxHeartbeats 2000000 in
theorem same_any (a1 a2 : Option Addr) (c1 c2 : Nat) (K : List ByteArray) (w : World) (hK : K.length ≤ 1000) (h1 : Rd w a1 K) (h2 : Rd w a2 K) : Calls Try.prog 13 #[.slice a1 K.length c1, .slice a2 K.length c2] w (SamePost w) := by
  go_enter Try.func13, Try.ntmps13
  go_wp2_with fail
  go_loopw [13] (fun iv wr => ∃ i n : Nat, iv = .int .i64 i ∧ i ≤ K.length ∧ wr = w.drewN n) (fun iv _ => K.length - (intOf iv).toNat)
  case atStart => exact ⟨0, 0, rfl, Nat.zero_le _, rfl⟩
  case round =>
    obtain ⟨i, n, rfl, hi1, rfl⟩ := hrel
    by_cases hlt : i < K.length
    · obtain ⟨b1, o1, rfl, hb1, hc1⟩ := rd_drewN h1 n i hlt
      obtain ⟨b2, o2, rfl, hb2, hc2⟩ := rd_drewN h2 n i hlt
      have k0 : (0 : Int) ≤ (i : Int) := by omega
      have k1 : (i : Int) < (K.length : Int) := by omega
      have hd1 : w.cell? ⟨b1, o1 + i, none⟩ = some (.string K[i]) := hc1
      have hd2 : w.cell? ⟨b2, o2 + i, none⟩ = some (.string K[i]) := hc2
      clear h1 h2
      go_wp2_with fail
      go_region_held3 (fun w' => w'.cell? ⟨b1, o1 + i, none⟩ = some (.string K[i]) ∧ w'.cell? ⟨b2, o2 + i, none⟩ = some (.string K[i])) (go_keep) (fail)
      go_wp2_with fail
      go_roundw
      case rel => exact ⟨i + 1, n + 1, by go_num, by omega, rfl⟩
      case measure => simp [intOf]; omega
    · obtain rfl : i = K.length := by omega
      go_wp2_with fail
      go_ret
      exact ⟨rfl, n, rfl⟩

set_option maxRecDepth 100000 in
set_option maxHeartbeats 2000000 in
theorem keys_law (w : World) (s : ByteArray) (_hs : s.size ≤ 140737488351232) : Calls Try.prog 5 #[.string s] w fun e w' => e = .returned (.bool true) ∧ Below w.heap.size w w' := by
  by_cases h1 : 2147483647 < s.size
  · go_enter Try.func5, Try.ntmps5
    go_wp2_with fail
    go_ret
    exact ⟨rfl, Below.refl _ _⟩
  · by_cases h2 : 100 < s.size
    · go_enter Try.func5, Try.ntmps5
      go_wp2_with fail
      go_ret
      exact ⟨rfl, Below.refl _ _⟩
    · cases hk : keysOf s with
      | none =>
        have HA := Lib.hid (keysOf_any s w (by omega) none hk)
        have HB := fun w => Lib.hid (keys_none s w (by omega) hk)
        clear hk
        go_enter Try.func5, Try.ntmps5
        go_wp2_with fail
        refine HA.out.mono ?_
        rintro e w1 ⟨rfl, hB1⟩
        go_wp2_with fail
        refine (HB _).out.mono ?_
        rintro e w2 ⟨rfl, hB2⟩
        go_wp2_with fail
        go_ret
        exact ⟨rfl, hB1.trans (hB2.mono hB1.size)⟩
      | some K =>
        have hKn : K.length ≤ 1000 := by
          have := keyRun_len _ _ _ _ hk
          simp at this
          omega
        have HA := Lib.hid (keysOf_any s w (by omega) (some K) hk)
        have HB := fun w => Lib.hid (keys_some s w (by omega) K hKn hk)
        clear hk
        go_enter Try.func5, Try.ntmps5
        go_wp2_with fail
        refine HA.out.mono ?_
        rintro e w1 ⟨v1, rfl, ho1, hB1⟩
        go_wp2_with fail
        refine (HB _).out.mono ?_
        rintro e w2 ⟨v2, rfl, ho2, hB2⟩
        have ho1' := own_below ho1 hB2
        obtain ⟨a1, c1, rfl, hr1⟩ := own_shape ho1'
        obtain ⟨a2, c2, rfl, hr2⟩ := own_shape ho2
        have HS := Lib.hid (same_any a2 a1 c2 c1 K w2 hKn hr2 hr1)
        clear ho1' ho1 ho2 hr1 hr2
        go_wp2_with (go_at_call 13; refine HS.out.mono ?_; rintro e w3 ⟨rfl, n, rfl⟩)
        go_ret
        exact ⟨rfl, below_drewN (hB1.trans (hB2.mono hB1.size)) n⟩

end Go.Proofs.Ytjcjdkgoegfhkaa.Seg
