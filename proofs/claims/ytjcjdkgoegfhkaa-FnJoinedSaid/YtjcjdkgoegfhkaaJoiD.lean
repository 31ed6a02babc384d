/- The walks of zzContains, zzReplaceAll and replaceWildcards. Conditions: sizes within the reach. -/
import Derived.Test.YtjcjdkgoegfhkaaJoiB
import Derived.Lib.AppendStr
namespace Go.Proofs.Ytjcjdkgoegfhkaa.Joi
open Go.RowKit Seg Lib

/-- A text with another one in the place of each sep (the first argument bounds the rounds). -/
def rep : Nat → ByteArray → ByteArray → ByteArray → ByteArray
  | 0, s, _, _ => s
  | f + 1, s, o, n => match sx s o with
    | none => s
    | some i => s.extract 0 i ++ n ++ rep f (s.extract (i + o.size) s.size) o n

theorem strCells_append (a b : ByteArray) : strCells (a ++ b) = strCells a ++ strCells b := by unfold strCells; rw [ba_append, List.map_append]
theorem info5 : (Try.prog.info? 5).map (fun i => (i.zero, i.size, i.bytes)) = some (some (.int .u8 0), 1, 1) := by kernel_rfl

/-- 'string(b)', b a slice of bytes that the call owns. -/
theorem conv_own {w : World} {base : Nat} {v : Value} {s : ByteArray} (h : w.ownsRow base 5 1 v s.size (strCells s)) : (convert 73 9 v).run Try.prog w = .ok (.string s) w := by
  rcases h.2 with ⟨rfl, e0⟩ | ⟨g, cap, cur, rfl, _⟩
  · have : s = ByteArray.empty := by
      apply ba_ext
      have : s.data.toList.length = 0 := by simpa using e0
      rw [List.length_eq_zero_iff.1 this]; rfl
    subst this
    exact run_convert_bytes_nil (P := Try.prog) w 73 5 Try.underlying73 Try.underlying5 0 0 9 Try.underlying9
  · refine run_convert_whole w 73 5 9 Try.underlying73 Try.underlying5 Try.underlying9 g 0 s (fun i hi => ?_) cap
    have := h.cells (g := g) rfl i (.int .u8 (s[i].toNat : Int)) (by
      unfold strCells
      rw [List.getElem?_map, List.getElem?_eq_getElem (by simpa using hi)]; rfl)
    rw [Go.WideShapes.add_plain] at this; exact this

theorem sx_range {s o : ByteArray} {i : Nat} (h : sx s o = some i) : i + o.size ≤ s.size := by
  unfold sx at h
  have key : ∀ (l : List UInt8) (n : Nat), sxL o.data.toList l = some n → n + o.data.toList.length ≤ l.length := by
    intro l
    induction l with
    | nil =>
      intro n hn
      unfold sxL at hn
      split at hn
      · rename_i hp; rw [hp]; simp at hn; subst hn; simp
      · cases hn
    | cons c l ih =>
      intro n hn
      rw [sxL] at hn
      split at hn
      · rename_i hp; rw [List.isPrefixOf_iff_prefix] at hp; have := hp.length_le; simp at hn; subst hn; simpa using this
      · cases hq : sxL o.data.toList l with
        | none => rw [hq] at hn; simp at hn
        | some m => rw [hq] at hn; simp at hn; subst hn; have := ih m hq; simp at this ⊢; omega
  have := key _ _ h
  simpa using this

set_option maxRecDepth 100000 in
set_option maxHeartbeats 1000000 in
theorem contains_any (s sub : ByteArray) (w : World) (h0 : 0 < sub.size) (hs : s.size ≤ 140737488355328) (hb : sub.size ≤ 140737488355328) :
    Calls Try.prog 50 #[.string s, .string sub] w fun e w' => e = .returned (.bool (sx s sub).isSome) ∧ w = w' := by
  have HI := Lib.hid (zzindex_any s sub w h0 hs hb)
  cases h : sx s sub with
  | none =>
    rw [h] at HI
    clear h
    unfold oi at HI
    go_enter Try.func50, Try.ntmps50
    go_wp2_with (go_at_call 45; refine HI.out.mono ?_; rintro e w' ⟨rfl, rfl⟩)
    go_ret
    exact ⟨rfl, rfl⟩
  | some n =>
    rw [h] at HI
    clear h
    unfold oi at HI
    have : (0 : Int) ≤ (n : Int) := by omega
    go_enter Try.func50, Try.ntmps50
    go_wp2_with (go_at_call 45; refine HI.out.mono ?_; rintro e w' ⟨rfl, rfl⟩)
    go_ret
    exact ⟨rfl, rfl⟩

set_option maxRecDepth 100000 in
set_option maxHeartbeats 4000000 in
theorem replace_any (s o n : ByteArray) (w : World) (h0 : 0 < o.size) (ho : o.size ≤ 1000) (hn : n.size ≤ o.size) (hs : s.size ≤ 100000000000000) :
    Calls Try.prog 51 #[.string s, .string o, .string n] w fun e w' => e = .returned (.string (rep (s.size + 1) s o n)) ∧ Below w.heap.size w w' := by
  obtain ⟨i5, hi5, hz0, hz1, hz2⟩ := info_parts info5
  obtain ⟨R, hR⟩ : ∃ R, rep (s.size + 1) s o n = R := ⟨_, rfl⟩
  rw [hR]
  have hstart := Lib.hid (show ByteArray.empty ++ rep (s.size + 1) s o n = R by rw [hR]; exact ba_ext (by simp))
  clear hR
  go_enter Try.func51, Try.ntmps51
  go_wp2_with fail
  go_loopw [0, 7] (fun tv bv wr => ∃ (f : Nat) (t acc : ByteArray), tv = .string t ∧ t.size < f ∧ Hid (acc ++ rep f t o n = R) ∧ wr.ownsRow w.heap.size 5 1 bv acc.size (strCells acc) ∧ acc.size + t.size ≤ s.size ∧ Below w.heap.size w wr) (fun tv _ _ => strSize tv)
  case atStart => exact ⟨s.size + 1, s, ByteArray.empty, rfl, by omega, hstart, ⟨rfl, .inl ⟨rfl, rfl⟩⟩, by rw [show ByteArray.empty.size = 0 from rfl]; omega, Below.refl _ _⟩
  case round =>
    obtain ⟨f, t, acc, rfl, hf, hrun, hown, hsz, hB⟩ := hrel
    obtain ⟨f, rfl⟩ : ∃ f', f = f' + 1 := ⟨f - 1, by omega⟩
    have HI := Lib.hid (zzindex_any t o wr h0 (by omega) (by omega))
    have hbw := hB.size
    cases h : sx t o with
    | none =>
      rw [h] at HI
      unfold oi at HI
      have HR := Lib.hid (show R = acc ++ t by rw [← hrun.out, rep, h])
      clear h hrun
      go_wp2_with (first | (go_at_call 45; refine HI.out.mono ?_; rintro e w' ⟨rfl, rfl⟩) | (at_builtin; refine wpList_append_own_string _ rfl (.tmp 14) (.tmp 15) 73 9 rfl w.heap.size 5 i5 Try.underlying73 Try.underlying9 hi5 hz0 hz1 hz2 _ _ _ rfl hown _ rfl (by unfold maxLen; omega) (by omega) hbw ?_; intro v' w2 hown2 hgrow2 _; rw [← strCells_append, ← ByteArray.size_append] at hown2; have hcv := conv_own hown2))
      go_ret
      exact ⟨by rw [HR.out]; rfl, Below.grown hB hgrow2 hbw (fun q e => (hown.lt q e).1)⟩
    | some i =>
      have hir := sx_range h
      rw [h] at HI
      unfold oi at HI
      have HR := Lib.hid (show (acc ++ t.extract 0 i ++ n) ++ rep f (t.extract (i + o.size) t.size) o n = R by
        rw [← hrun.out, rep, h]; apply ba_ext; simp)
      clear h hrun
      have k0 : (0 : Int) ≤ (i : Int) := by omega
      have k1 : (i : Int) ≤ (t.size : Int) := by omega
      have k2 : (i : Int) + (o.size : Int) ≤ (t.size : Int) := by omega
      have hxs : (t.extract 0 i).size = i := by rw [ByteArray.size_extract]; omega
      have hys : (t.extract (i + o.size) t.size).size = t.size - (i + o.size) := by rw [ByteArray.size_extract]; omega
      go_wp2_with (first | (go_at_call 45; refine HI.out.mono ?_; rintro e w' ⟨rfl, rfl⟩) | (at_builtin; refine wpList_append_own_string _ rfl (.tmp 18) (.tmp 21) 73 9 rfl w.heap.size 5 i5 Try.underlying73 Try.underlying9 hi5 hz0 hz1 hz2 _ _ _ rfl hown _ rfl (by unfold maxLen; omega) (by omega) hbw ?_; intro v2 w2 hown2 hgrow2 _; rw [← strCells_append, ← ByteArray.size_append] at hown2; have hB2 := Below.grown hB hgrow2 hbw (fun q e => (hown.lt q e).1); have hbw2 := hB2.size) | (at_builtin; refine wpList_append_own_string _ rfl (.tmp 22) (.tmp 23) 73 9 rfl w.heap.size 5 i5 Try.underlying73 Try.underlying9 hi5 hz0 hz1 hz2 _ _ _ rfl hown2 _ rfl (by unfold maxLen; rw [ByteArray.size_append]; omega) (by rw [ByteArray.size_append]; omega) hbw2 ?_; intro v3 w3 hown3 hgrow3 _; rw [← strCells_append, ← ByteArray.size_append] at hown3))
      go_roundw
      case rel => exact ⟨f, t.extract (i + o.size) t.size, acc ++ t.extract 0 i ++ n, rfl, by omega, HR, hown3, by rw [ByteArray.size_append, ByteArray.size_append]; omega, Below.grown hB2 hgrow3 hbw2 (fun q e => (hown2.lt q e).1)⟩
      case measure => simp only [strSize]; omega

/-- One turn of replaceWildcards does away with all of them. -/
theorem wild_none (s : ByteArray) (w : World) (hs : s.size ≤ 100000000000000) (h : sx s ⟨#[47, 42, 47]⟩ = none) : Calls Try.prog 42 #[.string s] w fun e w' => e = .returned (.string s) ∧ Below w.heap.size w w' := by
  have HC := Lib.hid (contains_any s ⟨#[47, 42, 47]⟩ w (by decide) (by omega) (by decide))
  rw [h] at HC
  clear h
  go_enter Try.func42, Try.ntmps42
  go_wp2_with fail
  go_loop [0] (fun v => v = .string s) (fun _ => 0)
  case atStart => rfl
  case round =>
    subst hrel
    go_wp2_with (go_at_call 50; refine HC.out.mono ?_; rintro e w' ⟨rfl, rfl⟩)
    go_ret
    exact ⟨rfl, Below.refl _ _⟩

set_option maxRecDepth 100000 in
set_option maxHeartbeats 1000000 in
theorem wild_once (s : ByteArray) (w : World) (hs : s.size ≤ 100000000000000) (i : Nat) (h : sx s ⟨#[47, 42, 47]⟩ = some i) (r : ByteArray) (hr : rep (s.size + 1) s ⟨#[47, 42, 47]⟩ ⟨#[47]⟩ = r) (hr0 : r.size < s.size) (h2 : sx r ⟨#[47, 42, 47]⟩ = none) : Calls Try.prog 42 #[.string s] w fun e w' => e = .returned (.string r) ∧ Below w.heap.size w w' := by
  have HC := Lib.hid (contains_any s ⟨#[47, 42, 47]⟩ w (by decide) (by omega) (by decide))
  have HC2 := fun w => Lib.hid (contains_any r ⟨#[47, 42, 47]⟩ w (by decide) (by omega) (by decide))
  have HP := Lib.hid (replace_any s ⟨#[47, 42, 47]⟩ ⟨#[47]⟩ w (by decide) (by decide) (by decide) hs)
  rw [h] at HC
  rw [h2] at HC2
  rw [hr] at HP
  clear h h2 hr
  go_enter Try.func42, Try.ntmps42
  go_wp2_with fail
  go_loopw [0] (fun v wr => (v = .string s ∧ wr = w) ∨ (v = .string r ∧ Below w.heap.size w wr)) (fun v _ => strSize v)
  case atStart => exact .inl ⟨rfl, rfl⟩
  case round =>
    rcases hrel with ⟨rfl, rfl⟩ | ⟨rfl, hB⟩
    · go_wp2_with (first | (go_at_call 50; refine HC.out.mono ?_; rintro e w' ⟨rfl, rfl⟩) | (go_at_call 51; refine HP.out.mono ?_; rintro e w' ⟨rfl, hB⟩))
      go_roundw
      case rel => exact .inr ⟨rfl, hB⟩
      case measure => simp only [strSize]; omega
    · go_wp2_with (go_at_call 50; refine (HC2 _).out.mono ?_; rintro e w' ⟨rfl, rfl⟩)
      go_ret
      exact ⟨rfl, hB⟩

end Go.Proofs.Ytjcjdkgoegfhkaa.Joi
