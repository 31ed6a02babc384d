/- The walk of IsMountPattern: where it says yes, the text begins with a slash, and holds only small letters, digits and slashes, one of the former behind each slash. Conditions: sizes within the reach. -/
import Derived.Test.YtjcjdkgoegfhkaaJoiB
namespace Go.Proofs.Ytjcjdkgoegfhkaa.Joi
open Go.RowKit Seg

/-- Whether a small letter or a digit stands at a place. -/
def plAt (s : ByteArray) (i : Nat) : Bool := match s.data.toList[i]? with
  | some c => plainI (c.toNat : Int)
  | none => false
def mountTo (s : ByteArray) (n : Nat) : Prop := ∀ i, i < n → plAt s i = true ∨ (s.data.toList[i]? = some 47 ∧ plAt s (i + 1) = true)
def MountPost (s : ByteArray) (w : World) (e : Ending) (w' : World) : Prop := ∃ r, e = .returned (.bool r) ∧ (r = true → beg s ⟨#[47]⟩ = true ∧ mountTo s s.size) ∧ w = w'

theorem plAt_eq (s : ByteArray) (i : Nat) (h : i < s.size) : plainI (s[i].toNat : Int) = plAt s i := by
  have e : s.data.toList[i]? = some s[i] := by rw [List.getElem?_eq_getElem (by simpa using h)]; rfl
  unfold plAt
  rw [e]

set_option maxRecDepth 100000 in
set_option maxHeartbeats 2000000 in
theorem mount_any (s : ByteArray) (w : World) (hs : s.size ≤ 140737488355328) : Calls Try.prog 16 #[.string s] w (MountPost s w) := by
  have HB := Lib.hid (begins_any s ⟨#[47]⟩ w (by decide))
  have HP := Lib.hid (fun n => plain_any n w)
  go_enter Try.func16, Try.ntmps16
  go_wp2
  go_loop [3, 7] (fun nv iv => ∃ k n : Nat, k ≤ s.size ∧ n ≤ k ∧ iv = .int .i64 k ∧ nv = .int .i64 n ∧ Hid (mountTo s k)) (fun _ iv => s.size - (intOf iv).toNat)
  case atStart => exact ⟨0, 0, by omega, by omega, rfl, rfl, Lib.hid (fun i h => by omega)⟩
  case round =>
    obtain ⟨k, n, hk, hn, rfl, rfl, hh⟩ := hrel
    by_cases hlt : k < s.size
    · have k1 : (0 : Int) ≤ (k : Int) := by omega
      have k2 : (k : Int) < (s.size : Int) := by omega
      have b1 := byte_beq s k hlt 47 47 rfl
      have p1 := plAt_eq s k hlt
      by_cases h1 : s.data.toList[k]? = some 47
      · rw [decide_eq_true h1] at b1
        by_cases h2 : k + 1 < s.size
        · have p2 := plAt_eq s (k + 1) h2
          have k3 : (k : Int) + 1 < (s.size : Int) := by omega
          cases h3 : plAt s (k + 1) with
          | true =>
            rw [h3] at p2
            have HN := Lib.hid (show mountTo s (k + 1) from fun i hi => by
              by_cases e : i = k
              · subst e; exact .inr ⟨h1, h3⟩
              · exact hh.out i (by omega))
            clear h1 h3 hh
            go_wp2_with (go_at_call 35; refine (HP.out _).mono ?_; rintro e w' ⟨rfl, rfl⟩)
            go_round
            case rel => exact ⟨k + 1, n + 1, by omega, by omega, by go_num, by go_num, HN⟩
            case measure => simp [intOf]; omega
          | false =>
            rw [h3] at p2
            cases h4 : plAt s k with
            | true =>
              rw [h4] at p1
              have HN := Lib.hid (show mountTo s (k + 1) from fun i hi => by
                by_cases e : i = k
                · subst e; exact .inl h4
                · exact hh.out i (by omega))
              clear h1 h3 h4 hh
              go_wp2_with (go_at_call 35; refine (HP.out _).mono ?_; rintro e w' ⟨rfl, rfl⟩)
              go_round
              case rel => exact ⟨k + 1, n, by omega, by omega, by go_num, by go_num, HN⟩
              case measure => simp [intOf]; omega
            | false =>
              rw [h4] at p1
              clear h1 h3 h4 hh
              go_wp2_with (go_at_call 35; refine (HP.out _).mono ?_; rintro e w' ⟨rfl, rfl⟩)
              go_ret
              exact ⟨false, rfl, fun h => by simp at h, rfl⟩
        · have k3 : (s.size : Int) ≤ (k : Int) + 1 := by omega
          cases h4 : plAt s k with
          | true =>
            rw [h4] at p1
            have HN := Lib.hid (show mountTo s (k + 1) from fun i hi => by
              by_cases e : i = k
              · subst e; exact .inl h4
              · exact hh.out i (by omega))
            clear h1 h4 hh
            go_wp2_with (go_at_call 35; refine (HP.out _).mono ?_; rintro e w' ⟨rfl, rfl⟩)
            go_round
            case rel => exact ⟨k + 1, n, by omega, by omega, by go_num, by go_num, HN⟩
            case measure => simp [intOf]; omega
          | false =>
            rw [h4] at p1
            clear h1 h4 hh
            go_wp2_with (go_at_call 35; refine (HP.out _).mono ?_; rintro e w' ⟨rfl, rfl⟩)
            go_ret
            exact ⟨false, rfl, fun h => by simp at h, rfl⟩
      · rw [decide_eq_false h1] at b1
        cases h4 : plAt s k with
        | true =>
          rw [h4] at p1
          have HN := Lib.hid (show mountTo s (k + 1) from fun i hi => by
            by_cases e : i = k
            · subst e; exact .inl h4
            · exact hh.out i (by omega))
          clear h1 h4 hh
          go_wp2_with (go_at_call 35; refine (HP.out _).mono ?_; rintro e w' ⟨rfl, rfl⟩)
          go_round
          case rel => exact ⟨k + 1, n, by omega, by omega, by go_num, by go_num, HN⟩
          case measure => simp [intOf]; omega
        | false =>
          rw [h4] at p1
          clear h1 h4 hh
          go_wp2_with (go_at_call 35; refine (HP.out _).mono ?_; rintro e w' ⟨rfl, rfl⟩)
          go_ret
          exact ⟨false, rfl, fun h => by simp at h, rfl⟩
    · obtain rfl : k = s.size := by omega
      cases hb : beg s ⟨#[47]⟩ with
      | false =>
        rw [hb] at HB
        clear hb HP
        go_wp2_with (go_at_call 31; refine HB.out.mono ?_; rintro e w' ⟨rfl, rfl⟩)
        go_ret
        exact ⟨false, rfl, fun h => by simp at h, rfl⟩
      | true =>
        have HQ := Lib.hid hb
        rw [hb] at HB
        clear hb HP
        go_wp2_with (go_at_call 31; refine HB.out.mono ?_; rintro e w' ⟨rfl, rfl⟩)
        all_goals (go_ret; exact ⟨_, rfl, fun _ => ⟨HQ.out, hh.out⟩, rfl⟩)

end Go.Proofs.Ytjcjdkgoegfhkaa.Joi
