/- The walks of small functions: isPlain, begins, has, IsBroken, IsMethod and great at the empty text, double, Trimmed. Conditions: sizes within the reach. -/
import Derived.Test.YtjcjdkgoegfhkaaKeyE
namespace Go.Proofs.Ytjcjdkgoegfhkaa.Joi
open Go.RowKit Seg

/-- A small letter or a digit. -/
def plainI (n : Int) : Bool := (decide (97 ≤ n) && decide (n ≤ 122)) || (decide (48 ≤ n) && decide (n ≤ 57))

set_option maxRecDepth 100000 in
set_option maxHeartbeats 1000000 in
theorem plain_any (n : Int) (w : World) : Calls Try.prog 35 #[.int .u8 n] w fun e w' => e = .returned (.bool (plainI n)) ∧ w = w' := by
  by_cases h1 : 97 ≤ n <;> by_cases h2 : n ≤ 122 <;> by_cases h3 : 48 ≤ n <;> by_cases h4 : n ≤ 57 <;>
    (have HR := Lib.hid (show plainI n = _ from by unfold plainI; simp only [h1, h2, h3, h4, decide_true, decide_false, Bool.and_true, Bool.and_false, Bool.or_true, Bool.or_false, Bool.and_self, Bool.or_self]; rfl)
     go_enter Try.func35, Try.ntmps35
     go_wp2
     go_ret
     exact ⟨by rw [HR.out]; rfl, rfl⟩)

/-- Whether a text begins with another one. -/
def beg (s f : ByteArray) : Bool := f.data.toList.isPrefixOf s.data.toList

theorem beg_iff (s f : ByteArray) : ((s.extract 0 f.size).toList == f.toList) = beg s f := by
  have := prefix_iff s f 0
  rw [Nat.zero_add, List.drop_zero] at this
  unfold beg
  cases hb : f.data.toList.isPrefixOf s.data.toList with
  | true => simpa using this.2 hb
  | false => rw [beq_eq_false_iff_ne]; intro e; rw [this.1 e] at hb; cases hb
theorem beg_short (s f : ByteArray) (h : ¬ f.size ≤ s.size) : beg s f = false := by
  unfold beg
  cases hb : f.data.toList.isPrefixOf s.data.toList with
  | false => rfl
  | true =>
    rw [List.isPrefixOf_iff_prefix] at hb
    have := hb.length_le
    simp at this
    omega

set_option maxRecDepth 100000 in
set_option maxHeartbeats 1000000 in
theorem begins_any (s f : ByteArray) (w : World) (hf : f.size ≤ 140737488355328) : Calls Try.prog 31 #[.string s, .string f] w fun e w' => e = .returned (.bool (beg s f)) ∧ w = w' := by
  by_cases h : f.size ≤ s.size
  · have t1 := beg_iff s f
    have k1 : (0 : Int) ≤ (f.size : Int) := by omega
    have k2 : (f.size : Int) ≤ (s.size : Int) := by omega
    go_enter Try.func31, Try.ntmps31
    go_wp2
    go_ret
    exact ⟨rfl, rfl⟩
  · have t1 := Lib.hid (beg_short s f h)
    have k2 : (s.size : Int) < (f.size : Int) := by omega
    go_enter Try.func31, Try.ntmps31
    go_wp2
    go_ret
    exact ⟨by rw [t1.out]; rfl, rfl⟩

/-- Whether a text stands somewhere in another one (that is not empty there). -/
def hasNot (s f : ByteArray) (n : Nat) : Prop := ∀ i, i < n → beg (s.extract i s.size) f = false
def HasPost (s f : ByteArray) (w : World) (e : Ending) (w' : World) : Prop := ∃ r, e = .returned (.bool r) ∧ (r = false → hasNot s f s.size) ∧ w = w'

set_option maxRecDepth 100000 in
set_option maxHeartbeats 1000000 in
theorem has_any (s f : ByteArray) (w : World) (hs : s.size ≤ 140737488355328) (hf : f.size ≤ 140737488355328) : Calls Try.prog 32 #[.string s, .string f] w (HasPost s f w) := by
  go_enter Try.func32, Try.ntmps32
  go_wp2
  go_loop [8] (fun i => ∃ k : Nat, k ≤ s.size ∧ i = .int .i64 k ∧ Hid (hasNot s f k)) (fun i => s.size - (intOf i).toNat)
  case atStart => exact ⟨0, Nat.zero_le _, rfl, Lib.hid (fun i hi => by omega)⟩
  case round =>
    obtain ⟨k, hk, rfl, hh⟩ := hrel
    by_cases hlt : k < s.size
    · have HB := Lib.hid (begins_any (s.extract k s.size) f w hf)
      have k1 : (0 : Int) ≤ (k : Int) := by omega
      have k2 : (k : Int) ≤ (s.size : Int) := by omega
      cases hb : beg (s.extract k s.size) f with
      | true =>
        rw [hb] at HB
        clear hb
        go_wp2_with (go_at_call 31; refine HB.out.mono ?_; rintro e w' ⟨rfl, rfl⟩)
        go_ret
        exact ⟨true, rfl, fun h => by simp at h, rfl⟩
      | false =>
        rw [hb] at HB
        have HN := Lib.hid (show hasNot s f (k + 1) from fun i hi => by
          by_cases e : i = k
          · subst e; exact hb
          · exact hh.out i (by omega))
        clear hb hh
        go_wp2_with (go_at_call 31; refine HB.out.mono ?_; rintro e w' ⟨rfl, rfl⟩)
        go_round
        case rel => exact ⟨k + 1, by omega, by go_num, HN⟩
        case measure => simp [intOf]; omega
    · obtain rfl : k = s.size := by omega
      go_wp2
      go_ret
      exact ⟨false, rfl, fun _ => hh.out, rfl⟩

set_option maxRecDepth 100000 in
set_option maxHeartbeats 1000000 in
theorem broken_any (s : ByteArray) (w : World) : Calls Try.prog 33 #[.string s] w fun e w' => (∃ r, e = .returned (.bool r)) ∧ w = w' := by
  go_enter Try.func33, Try.ntmps33
  go_wp2
  all_goals (go_ret; exact ⟨⟨_, rfl⟩, rfl⟩)

end Go.Proofs.Ytjcjdkgoegfhkaa.Joi
