/- The walks of IsMethod and great at the empty text, double, Trimmed. Conditions: sizes within the reach. -/
import Derived.Test.YtjcjdkgoegfhkaaJoiA
import Derived.Lib.SlBytesRow
namespace Go.Proofs.Ytjcjdkgoegfhkaa.Joi
open Go.RowKit Seg

set_option maxRecDepth 100000 in
set_option maxHeartbeats 1000000 in
theorem great_empty (w : World) : Calls Try.prog 30 #[.string ⟨#[]⟩] w fun e w' => e = .returned (.string ⟨#[]⟩) ∧ Below w.heap.size w w' := by
  have hconv : (convert 73 9 (.slice (some ⟨w.heap.size, 0, none⟩) 0 0)).run Try.prog (w.alloc (.cells #[] 5)) = .ok (.string ⟨#[]⟩) (w.alloc (.cells #[] 5)) :=
    Lib.run_convert_whole _ 73 5 9 Try.underlying73 Try.underlying5 Try.underlying9 w.heap.size 0 ⟨#[]⟩ (fun i h => absurd h (Nat.not_lt_zero i)) 0
  go_enter Try.func30, Try.ntmps30
  go_wp2
  go_loop [3, 9] (fun v i => v = .slice (some ⟨w.heap.size, 0, none⟩) 0 0 ∧ i = .int .i64 0) (fun _ _ => 0)
  case atStart => exact ⟨rfl, rfl⟩
  case round =>
    obtain ⟨rfl, rfl⟩ := hrel
    go_wp2
    go_ret
    exact ⟨rfl, (Below.refl _ _).alloc (Nat.le_refl _) _⟩

def MethodsPost (w : World) (e : Ending) (w' : World) : Prop := ∃ M : Array Value, e = .returned (.slice (some ⟨w.heap.size, 0, none⟩) 10 10) ∧ w' = w.alloc (.cells M 9) ∧ ∀ i, i < 10 → ∃ m : ByteArray, M[i]? = some (.string m) ∧ (m.toList == ([] : List UInt8)) = false
set_option maxRecDepth 100000 in
set_option maxHeartbeats 1000000 in
theorem methods_any (w : World) : Calls Try.prog 40 #[] w (MethodsPost w) := by
  go_enter Try.func40, Try.ntmps40
  go_wp2
  go_ret
  refine ⟨_, rfl, rfl, fun i hi => ?_⟩
  rcases i with _ | _ | _ | _ | _ | _ | _ | _ | _ | _ | i
  all_goals first | exact ⟨_, rfl, by rw [Lib.toList_data]; rfl⟩ | omega

set_option maxRecDepth 100000 in
set_option maxHeartbeats 2000000 in
theorem ismethod_empty (w : World) : Calls Try.prog 29 #[.string ⟨#[]⟩] w fun e w' => e = .returned (.bool false) ∧ Below w.heap.size w w' := by
  have HM := Lib.hid (methods_any w)
  go_enter Try.func29, Try.ntmps29
  go_wp2_with fail
  refine HM.out.mono ?_
  rintro e w1 ⟨M, rfl, rfl, hM⟩
  have hN := heap_alloc_new w (.cells M 9)
  have hB : Below w.heap.size w (w.alloc (.cells M 9)) := (Below.refl _ w).alloc (Nat.le_refl _) _
  have hs := World.size_alloc w (.cells M 9)
  generalize hw1 : w.alloc (.cells M 9) = w1 at *
  clear hw1
  go_wp2_with fail
  go_loop [7] (fun i => ∃ k : Nat, k ≤ 10 ∧ i = .int .i64 k) (fun i => 10 - (intOf i).toNat)
  case atStart => exact ⟨0, by omega, rfl⟩
  case round =>
    obtain ⟨k, hk, rfl⟩ := hrel
    by_cases hlt : k < 10
    · obtain ⟨m, hm, t1⟩ := hM k hlt
      have hc : w1.cell? ⟨w.heap.size, k, none⟩ = some (.string m) := by
        rw [cell_of_row w1 w.heap.size k M 9 (0, 0) hN]; exact hm
      have k1 : (0 : Int) ≤ (k : Int) := by omega
      have k2 : (k : Int) < 10 := by omega
      clear hM
      go_wp2_with fail
      go_round
      case rel => exact ⟨k + 1, by omega, by go_num⟩
      case measure => simp [intOf]; omega
    · obtain rfl : k = 10 := by omega
      go_wp2_with fail
      go_ret
      exact ⟨rfl, hB⟩

def noDouble (s : ByteArray) (n : Nat) : Prop := ∀ i, 0 < i → i < n → ¬ (s.data.toList[i]? = some 47 ∧ s.data.toList[i - 1]? = some 47)
def DoublePost (s : ByteArray) (w : World) (e : Ending) (w' : World) : Prop := ∃ r, e = .returned (.bool r) ∧ (r = false → noDouble s s.size) ∧ w = w'

theorem byte_beq (s : ByteArray) (i : Nat) (h : i < s.size) (c : UInt8) (n : Int) (hn : n = (c.toNat : Int)) : ((s[i].toNat : Int) == n) = decide (s.data.toList[i]? = some c) := by
  have e : s.data.toList[i]? = some s[i] := by rw [List.getElem?_eq_getElem (by simpa using h)]; rfl
  rw [e]
  subst hn
  by_cases hc : s[i] = c
  · rw [hc]; simp
  · rw [decide_eq_false (by simpa using hc), beq_eq_false_iff_ne]
    intro q
    exact hc (UInt8.toNat_inj.1 (by omega))

set_option maxRecDepth 100000 in
set_option maxHeartbeats 1000000 in
theorem double_any (s : ByteArray) (w : World) (hs : s.size ≤ 140737488355328) : Calls Try.prog 15 #[.string s] w (DoublePost s w) := by
  go_enter Try.func15, Try.ntmps15
  go_wp2
  go_loop [3] (fun i => ∃ k : Nat, 0 < k ∧ (k ≤ s.size ∨ k = 1) ∧ i = .int .i64 k ∧ Hid (noDouble s k)) (fun i => s.size - (intOf i).toNat)
  case atStart => exact ⟨1, by omega, .inr rfl, rfl, Lib.hid (fun i h0 h1 => by omega)⟩
  case round =>
    obtain ⟨k, hk0, hk, rfl, hh⟩ := hrel
    by_cases hlt : k < s.size
    · have k1 : (1 : Int) ≤ (k : Int) := by omega
      have k2 : (k : Int) < (s.size : Int) := by omega
      have hlt1 : k - 1 < s.size := by omega
      have kk : ((k : Int) - 1) = ((k - 1 : Nat) : Int) := by omega
      have b1 := byte_beq s k hlt 47 47 rfl
      have b2 := byte_beq s (k - 1) hlt1 47 47 rfl
      by_cases h1 : s.data.toList[k]? = some 47
      · rw [decide_eq_true h1] at b1
        by_cases h2 : s.data.toList[k - 1]? = some 47
        · rw [decide_eq_true h2] at b2
          clear h1 h2 hh
          go_wp2
          go_ret
          exact ⟨true, rfl, fun h => by simp at h, rfl⟩
        · rw [decide_eq_false h2] at b2
          have HN := Lib.hid (show noDouble s (k + 1) from fun i h0 hi => by
            by_cases e : i = k
            · subst e; exact fun q => h2 q.2
            · exact hh.out i h0 (by omega))
          clear h1 h2 hh
          go_wp2
          go_round
          case rel => exact ⟨k + 1, by omega, by omega, by go_num, HN⟩
          case measure => simp [intOf]; omega
      · rw [decide_eq_false h1] at b1
        have HN := Lib.hid (show noDouble s (k + 1) from fun i h0 hi => by
          by_cases e : i = k
          · subst e; exact fun q => h1 q.1
          · exact hh.out i h0 (by omega))
        clear h1 hh
        go_wp2
        go_round
        case rel => exact ⟨k + 1, by omega, by omega, by go_num, HN⟩
        case measure => simp [intOf]; omega
    · go_wp2
      go_ret
      exact ⟨false, rfl, fun _ i h0 h1 => hh.out i h0 (by omega), rfl⟩

/-- A text without a slash at its end, unless it is one. -/
def trimmed (s : ByteArray) : ByteArray := if 1 < s.size ∧ s.data.toList[s.size - 1]? = some 47 then s.extract 0 (s.size - 1) else s

set_option maxRecDepth 100000 in
set_option maxHeartbeats 1000000 in
theorem trimmed_any (s : ByteArray) (w : World) (hs : s.size ≤ 140737488355328) : Calls Try.prog 18 #[.string s] w fun e w' => e = .returned (.string (trimmed s)) ∧ w = w' := by
  by_cases h1 : 1 < s.size
  · have hlt1 : s.size - 1 < s.size := by omega
    have kk : ((s.size : Int) - 1) = ((s.size - 1 : Nat) : Int) := by omega
    have b1 := byte_beq s (s.size - 1) hlt1 47 47 rfl
    have k1 : (1 : Int) < (s.size : Int) := by omega
    by_cases h2 : s.data.toList[s.size - 1]? = some 47
    · rw [decide_eq_true h2] at b1
      have HR := Lib.hid (show trimmed s = s.extract 0 (s.size - 1) from if_pos ⟨h1, h2⟩)
      clear h2
      go_enter Try.func18, Try.ntmps18
      go_wp2
      go_ret
      exact ⟨by rw [HR.out]; rfl, rfl⟩
    · rw [decide_eq_false h2] at b1
      have HR := Lib.hid (show trimmed s = s from if_neg (fun h => h2 h.2))
      clear h2
      go_enter Try.func18, Try.ntmps18
      go_wp2
      go_ret
      exact ⟨by rw [HR.out]; rfl, rfl⟩
  · have HR := Lib.hid (show trimmed s = s from if_neg (fun h => h1 h.1))
    go_enter Try.func18, Try.ntmps18
    go_wp2
    go_ret
    exact ⟨by rw [HR.out]; rfl, rfl⟩

end Go.Proofs.Ytjcjdkgoegfhkaa.Joi
