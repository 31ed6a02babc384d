/- slices.Backward over a slice of strings, and Context.URLParam: of several values of a key the last one. Conditions: keys and values are equally many, at most 1000. -/
import Derived.RangeFuncNested
import Derived.RangeFuncBound
import Derived.RangeFuncCalls
import Derived.RangeFuncLeaves
import Derived.RangeFuncBox
import Derived.Shelf.Abstract
import Derived.Shelf.RegionOpen
import Derived.WalkKit
import Derived.OwnWalkIn
import Derived.TacticsInMore
import Derived.LoopNIn
import Derived.LoopIn
import Derived.Lib.Hide
import Derived.Test.YtjcjdkgoegfhkaaParA
namespace Go.Proofs.Ytjcjdkgoegfhkaa.Par
open Go.RowKit Go.Shelf

attribute [local go_sem] Oper.semAt_some

/-- What has come when k rounds are over: f 0, .., f (k - 1). -/
def upto {α : Type} (f : Nat → α) (k : Nat) : List α := (List.range k).map f
theorem upto_succ {α : Type} (f : Nat → α) (k : Nat) : upto f (k + 1) = upto f k ++ [f k] := by simp [upto, List.range_succ]
theorem upto_length {α : Type} (f : Nat → α) (k : Nat) : (upto f k).length = k := by simp [upto]

/-- An index below n with a text. -/
abbrev Pr (n : Nat) := { x : Nat × ByteArray // x.1 < n }
/-- What Backward hands on in round j: the place and the text there, from the end. -/
def back (zs : List ByteArray) (n : Nat) (j : Nat) : Nat × ByteArray := (n - 1 - j, zs[n - 1 - j]?.getD ByteArray.empty)
def Came (zs : List ByteArray) (n k : Nat) (pre : List (Pr n)) : Prop := pre.map (fun x => x.1) = upto (back zs n) k
theorem Came.snoc {zs : List ByteArray} {n k : Nat} {pre : List (Pr n)} (h : Came zs n k pre) (x : Pr n) (hx : x.1 = back zs n k) : Came zs n (k + 1) (pre ++ [x]) := by
  unfold Came at *
  rw [List.map_append, h, upto_succ, ← hx]; rfl
theorem Came.cast {zs : List ByteArray} {n k j : Nat} {pre : List (Pr n)} (h : Came zs n k pre) (e : k = j) : Came zs n j pre := e ▸ h
theorem Came.length {zs : List ByteArray} {n k : Nat} {pre : List (Pr n)} (h : Came zs n k pre) : pre.length = k := by
  have := congrArg List.length h
  rwa [List.length_map, upto_length] at this

set_option maxRecDepth 100000 in
set_option maxHeartbeats 2000000 in
/-- The closure of slices.Backward, over strings that lie below n₀. -/
theorem back1_in (F : Fence) (m : Nat) (h44 : F.fn 44) (hro : F.round = none) (hm : 1 ≤ m) (l Bs n₀ b off len cap : Nat) (zs : List ByteArray) (hreach : len ≤ 1000) (hb : b < n₀) (J Jx : List (Pr len) → World → Prop)
    (hY : ∀ pre x W, J pre W → pre.length < len → YieldAt F (m - 1) Try.prog l #[.int .i64 (x.1.1 : Int), .string x.1.2] W fun e W' =>
      (e = .returned (.bool true) ∧ J (pre ++ [x]) W' ∧ Below n₀ W W') ∨ (e = .returned (.bool false) ∧ Jx (pre ++ [x]) W'))
    (W : World) (hBs : W.cell? ⟨Bs, 0, none⟩ = some (.slice (some ⟨b, off, none⟩) len cap)) (hBn : Bs < n₀) (hc : ∀ j, j < len → W.cell? ⟨b, off + j, none⟩ = some (.string (zs[j]?.getD ByteArray.empty))) (h0 : J [] W) :
    CallsIn F m Try.prog 44 #[.func (.yield l) #[] #[], .pointer (some ⟨Bs, 0, none⟩)] W fun e W' => (∃ v, e = .returned v) ∧
      ((∃ ys, Came zs len len ys ∧ J ys W') ∨ (∃ pre, (∃ k, k ≤ len ∧ Came zs len k pre) ∧ Jx pre W')) := by
  refine callsIn_of_wp Try.func44 rfl h44 ?_ hro
  simp only [Try.ntmps44, List.size_toArray, List.length_cons, List.length_nil, Nat.reduceAdd, Nat.reduceSub, Array.replicate_succ, Array.replicate_zero, List.push_toArray, List.append_toArray, List.nil_append, List.cons_append]
  gi_wp2
  gi_loopw [3] (fun i wr => ∃ (k r : Nat) (pre : List (Pr len)), Hid (r + k = len) ∧ i = .int .i64 ((r : Int) - 1) ∧ Came zs len k pre ∧ J pre wr ∧ Below n₀ W wr)
    (fun i _ => (intOf i + 1).toNat)
  case atStart => exact ⟨0, len, [], Lib.hid (by omega), rfl, rfl, h0, Below.refl _ _⟩
  case round =>
    obtain ⟨k, r, pre, hk, rfl, hcm, hJs, hnx⟩ := hrel
    have hBs' := (hnx.cell (p := ⟨Bs, 0, none⟩) hBn).trans hBs
    clear hBs h0
    cases r with
    | zero =>
      rw [show ((0 : Nat) : Int) - 1 = -1 from rfl]
      gi_wp2
      go_end0
      exact ⟨⟨_, rfl⟩, .inl ⟨pre, hcm.cast (by have := hk.out; omega), hJs⟩⟩
    | succ r =>
      rw [show ((r + 1 : Nat) : Int) - 1 = (r : Int) by omega]
      have hr : r < len := by have := hk.out; omega
      have hcx := (hnx.cell (p := ⟨b, off + r, none⟩) hb).trans (hc r hr)
      obtain ⟨fn, tmps, assign, body, hy, hR⟩ := hY pre ⟨(r, zs[r]?.getD ByteArray.empty), hr⟩ wr hJs (by rw [hcm.length]; have := hk.out; omega)
      have hcm' := hcm.snoc ⟨(r, zs[r]?.getD ByteArray.empty), hr⟩ (by unfold back; rw [show len - 1 - k = r by have := hk.out; omega])
      have hri : (r : Int) < (len : Int) := by omega
      have hr0 : (0 : Int) ≤ (r : Int) := by omega
      clear hc hY
      dsimp only at hy
      gi_wp2
      refine hR.mono ?_
      rintro e W3 (⟨rfl, hJ3, hk3⟩ | ⟨rfl, hJx3⟩)
      · gi_wp2
        go_roundw
        case rel => exact ⟨k + 1, r, _, Lib.hid (by have := hk.out; omega), by first | rfl | simp, hcm', hJ3, hnx.trans hk3⟩
        case measure => first | (simp [intOf]; done) | (simp [intOf]; omega)
      · gi_wp2
        refine bodyPost_ret (results_none rfl _ _ _) rfl ?_
        exact ⟨⟨_, rfl⟩, .inr ⟨_, ⟨k + 1, by have := hk.out; omega, hcm'⟩, hJx3⟩⟩

set_option maxRecDepth 100000 in
set_option maxHeartbeats 1000000 in
/-- .. at the nil slice: no round. -/
theorem back1_nil_in (F : Fence) (m : Nat) (h44 : F.fn 44) (hro : F.round = none) (l Bs : Nat) (J : World → Prop) (W : World) (hBs : W.cell? ⟨Bs, 0, none⟩ = some (.slice none 0 0)) (h0 : J W) :
    CallsIn F m Try.prog 44 #[.func (.yield l) #[] #[], .pointer (some ⟨Bs, 0, none⟩)] W fun e W' => (∃ v, e = .returned v) ∧ J W' := by
  refine callsIn_of_wp Try.func44 rfl h44 ?_ hro
  simp only [Try.ntmps44, List.size_toArray, List.length_cons, List.length_nil, Nat.reduceAdd, Nat.reduceSub, Array.replicate_succ, Array.replicate_zero, List.push_toArray, List.append_toArray, List.nil_append, List.cons_append]
  gi_wp2
  gi_loopw [3] (fun i wr => i = .int .i64 (-1) ∧ J wr) (fun _ _ => 0)
  case atStart => exact ⟨rfl, h0⟩
  case round =>
    obtain ⟨rfl, hJs⟩ := hrel
    gi_wp2
    go_end0
    exact ⟨⟨_, rfl⟩, hJs⟩

set_option maxHeartbeats 1000000 in
/-- slices.Backward(s): the slice value is boxed; the function value captures the box. -/
theorem backward_in (F : Fence) (n : Nat) (h37 : F.fn 37) (hro : F.round = none) (a : Option Addr) (len cap : Nat) (w : World) :
    CallsIn F n Try.prog 37 #[.slice a len cap] w fun e w' => e = .returned (.func (.func 44) #[] #[.pointer (some ⟨w.heap.size, 0, none⟩)]) ∧ w' = w.alloc (.cells #[.slice a len cap] 22) := by
  refine callsIn_of_wp Try.func37 rfl h37 ?_ hro
  simp only [Try.ntmps37, List.size_toArray, List.length_cons, List.length_nil, Nat.reduceAdd, Nat.reduceSub, Array.replicate_succ, Array.replicate_zero, List.push_toArray, List.append_toArray, List.nil_append, List.cons_append]
  gi_wp2
  go_ret
  exact ⟨rfl, rfl⟩

/-- The slice value sv holds the texts zs, in a block below n₀; or it is nil and there are none. -/
def Strs (n₀ : Nat) (W : World) (sv : Value) (zs : List ByteArray) : Prop :=
  (sv = .slice none 0 0 ∧ zs = []) ∨ ∃ b off cap, sv = .slice (some ⟨b, off, none⟩) zs.length cap ∧ b < n₀ ∧ ∀ j, j < zs.length → W.cell? ⟨b, off + j, none⟩ = some (.string (zs[j]?.getD ByteArray.empty))
theorem Strs.below {n₀ : Nat} {A B : World} (h : Below n₀ A B) {sv : Value} {zs : List ByteArray} : Strs n₀ A sv zs → Strs n₀ B sv zs
  | .inl e => .inl e
  | .inr ⟨b, off, cap, e, hb, hc⟩ => .inr ⟨b, off, cap, e, hb, fun j hj => (h.cell (p := ⟨b, off + j, none⟩) hb).trans (hc j hj)⟩

theorem backward_stops (F : Fence) (m : Nat) (h44 : F.fn 44) (hro : F.round = none) (hm : 1 ≤ m) (Bs n₀ : Nat) (sv : Value) (zs : List ByteArray) (hreach : zs.length ≤ 1000) (w : World) (hBs : Bs < n₀) (hn₀ : n₀ ≤ w.heap.size)
    (hc : w.cell? ⟨Bs, 0, none⟩ = some sv) (hI : Strs n₀ w sv zs) :
    SeqStopsK F m Try.prog 44 #[.pointer (some ⟨Bs, 0, none⟩)] (fun x : Pr zs.length => #[Value.int .i64 (x.1.1 : Int), Value.string x.1.2]) (Below n₀) (fun ys => Came zs zs.length zs.length ys)
      (fun pre => ∃ k, k ≤ zs.length ∧ Came zs zs.length k pre) zs.length w := fun l J Jx W hW _ _ hY h0 => by
  have hc' := (hW.cell (p := ⟨Bs, 0, none⟩) (by exact Nat.lt_of_lt_of_le hBs hn₀)).trans hc
  rcases hI.below (hW.mono hn₀) with ⟨rfl, e⟩ | ⟨b, off, cap, rfl, hb, hcs⟩
  · subst e
    exact (back1_nil_in F m h44 hro l Bs (J []) W hc' h0).mono fun e W' ⟨he, hj⟩ => ⟨he, .inl ⟨[], rfl, hj⟩⟩
  · exact back1_in F m h44 hro hm l Bs n₀ b off zs.length cap zs hreach hb J Jx hY W hc' hBs hcs h0

end Go.Proofs.Ytjcjdkgoegfhkaa.Par
