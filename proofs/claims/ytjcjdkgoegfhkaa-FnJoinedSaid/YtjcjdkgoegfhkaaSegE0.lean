/- An expression for the whole value, byte by byte: small lemmas, no program. -/
import Derived.Test.YtjcjdkgoegfhkaaSegA
namespace Go.Proofs.Ytjcjdkgoegfhkaa.Seg

theorem ba_ext {a b : ByteArray} (h : a.data.toList = b.data.toList) : a = b := by
  cases a; cases b; simp at h; simp [h]
theorem ba_append (a b : ByteArray) : (a ++ b).data.toList = a.data.toList ++ b.data.toList := by simp

theorem head_iff (x : ByteArray) (h : 0 < x.size) (c : UInt8) : x.data.toList.head? = some c ↔ (x[0]'h) = c := by
  have h4 : 0 < x.data.toList.length := by simpa using h
  rw [List.head?_eq_getElem?, List.getElem?_eq_getElem h4, Option.some.injEq]
  exact Iff.rfl
theorem last_iff (x : ByteArray) (h : x.size - 1 < x.size) (c : UInt8) : x.data.toList.getLast? = some c ↔ (x[x.size - 1]'h) = c := by
  have h4 : x.data.toList.length - 1 < x.data.toList.length := by simpa using h
  rw [List.getLast?_eq_getElem?, List.getElem?_eq_getElem h4, Option.some.injEq]
  have e : x.data.toList[x.data.toList.length - 1] = x[x.size - 1] := by
    have : x.data.toList.length = x.size := by simp
    simp only [this]; rfl
  rw [e]

theorem front_yes (x : ByteArray) (h : 0 < x.size) (e : (x[0]'h) = 94) : front x ++ x = x := by
  unfold front
  rw [if_pos ((head_iff x h 94).2 e)]
  exact ba_ext (by rw [ba_append]; rfl)
theorem front_no (x : ByteArray) (h : 0 < x.size) (e : ¬ (x[0]'h) = 94) : front x ++ x = ⟨#[94]⟩ ++ x := by
  unfold front
  rw [if_neg (fun q => e ((head_iff x h 94).1 q))]

theorem front_last (x : ByteArray) (h : 0 < x.size) : (front x ++ x).data.toList.getLast? = x.data.toList.getLast? := by
  rw [ba_append, List.getLast?_append]
  cases hq : x.data.toList.getLast? with
  | none =>
    rw [List.getLast?_eq_none_iff] at hq
    have := congrArg List.length hq
    simp at this
    simp [this] at h
  | some a => simp

theorem anch_yes (x y : ByteArray) (h : 0 < x.size) (hy : y = front x ++ x) (h' : y.size - 1 < y.size) (e : (y[y.size - 1]'h') = 36) : anch x = y := by
  have h1 := (last_iff y h' 36).2 e
  have h2 : x.data.toList.getLast? = some 36 := by rw [hy, front_last x h] at h1; exact h1
  unfold anch back
  rw [if_neg (by omega), if_pos h2, ← hy]
  exact ba_ext (by rw [ba_append]; simp)
theorem anch_no (x y : ByteArray) (h : 0 < x.size) (hy : y = front x ++ x) (h' : y.size - 1 < y.size) (e : ¬ (y[y.size - 1]'h') = 36) : anch x = y ++ ⟨#[36]⟩ := by
  have h2 : ¬ x.data.toList.getLast? = some 36 := fun q => e ((last_iff y h' 36).1 (by rw [hy, front_last x h]; exact q))
  unfold anch back
  rw [if_neg (by omega), if_neg h2, ← hy]
theorem anch_nil (x : ByteArray) (h : x.size = 0) : anch x = x := by unfold anch; rw [if_pos h]

theorem size94 (x : ByteArray) : ((⟨#[94]⟩ : ByteArray) ++ x).size = x.size + 1 := by rw [ByteArray.size_append, show (⟨#[94]⟩ : ByteArray).size = 1 from rfl]; omega

theorem tail_yes (s : ByteArray) (e : Nat) (h : e < s.size) : tailOf s e = ((s[e]'h).toNat : Int) := by unfold tailOf; rw [dif_pos h]
theorem tail_no (s : ByteArray) (e : Nat) (h : ¬ e < s.size) : tailOf s e = 47 := by unfold tailOf; rw [dif_neg h]

theorem front_is (x : ByteArray) (h : 0 < x.size) (e : (x[0]'h) = 94) : front x = ⟨#[]⟩ := by unfold front; rw [if_pos ((head_iff x h 94).2 e)]
theorem front_not (x : ByteArray) (h : 0 < x.size) (e : ¬ (x[0]'h) = 94) : front x = ⟨#[94]⟩ := by unfold front; rw [if_neg (fun q => e ((head_iff x h 94).1 q))]
theorem back_is (x : ByteArray) (h : x.size - 1 < x.size) (e : (x[x.size - 1]'h) = 36) : back x = ⟨#[]⟩ := by unfold back; rw [if_pos ((last_iff x h 36).2 e)]
theorem back_not (x : ByteArray) (h : x.size - 1 < x.size) (e : ¬ (x[x.size - 1]'h) = 36) : back x = ⟨#[36]⟩ := by unfold back; rw [if_neg (fun q => e ((last_iff x h 36).1 q))]

end Go.Proofs.Ytjcjdkgoegfhkaa.Seg
