/- impl.Param: of several values of a key the last one, and the empty text for another key. Conditions: keys and values are equally many, at most 30. -/
import Derived.StillTailTactics
import Derived.Test.YtjcjdkgoegfhkaaParC
namespace Go.Proofs.Ytjcjdkgoegfhkaa.Par
open Go.RowKit Go.Shelf

/-- A slice of strings that came in: the cells of its elements. -/
def SArg (w : World) (a : Option Addr) (ks : List ByteArray) : Prop := ∀ j, j < ks.length → ∃ b off, a = some ⟨b, off, none⟩ ∧ b < w.heap.size ∧ w.cell? ⟨b, off + j, none⟩ = some (.string (ks[j]?.getD ByteArray.empty))

theorem take_snoc (ks : List ByteArray) (n : Nat) (h : n < ks.length) : ks.take (n + 1) = ks.take n ++ [ks[n]?.getD ByteArray.empty] := by
  rw [List.take_succ_eq_append_getElem h]; simp [h]

theorem Ctx.strsK {b : Nat} {w : World} {vK vV : Value} {ks vs : List ByteArray} (h : Ctx b w vK vV ks vs) : Strs w.heap.size w vK ks := by
  rcases h.own.2 with ⟨e, e0⟩ | ⟨g, cap, cur, rfl, _⟩
  · exact .inl ⟨e, List.length_eq_zero_iff.1 e0⟩
  · refine .inr ⟨g, 0, cap, rfl, (h.own.lt g rfl).2, fun j hj => ?_⟩
    have := h.own.cells (g := g) rfl j (.string (ks[j]?.getD ByteArray.empty)) (by simp [hj])
    rw [Go.WideShapes.add_plain] at this; exact this
theorem Ctx.strsV {b : Nat} {w : World} {vK vV : Value} {ks vs : List ByteArray} (h : Ctx b w vK vV ks vs) : Strs w.heap.size w vV vs := by
  rcases h.ownV.2 with ⟨e, e0⟩ | ⟨g, cap, cur, rfl, _⟩
  · exact .inl ⟨e, List.length_eq_zero_iff.1 e0⟩
  · refine .inr ⟨g, 0, cap, rfl, (h.ownV.lt g rfl).2, fun j hj => ?_⟩
    have := h.ownV.cells (g := g) rfl j (.string (vs[j]?.getD ByteArray.empty)) (by simp [hj])
    rw [Go.WideShapes.add_plain] at this; exact this

theorem Ctx.drew {b : Nat} {w : World} {vK vV : Value} {ks vs : List ByteArray} (h : Ctx b w vK vV ks vs) : Ctx b w.drew vK vV ks vs := ⟨h.blk, h.own.drew, h.ownV.drew, h.ne⟩

theorem Ctx.nil (w : World) : Ctx w.heap.size (w.alloc (.cells (ctxCells (.slice none 0 0) (.slice none 0 0)) 49)) (.slice none 0 0) (.slice none 0 0) [] [] :=
  ⟨World.alloc_heap_new w _, World.ownsRow_nil _ _ _ _, World.ownsRow_nil _ _ _ _, fun g e => by simp [Value.ownBlock] at e⟩

theorem urlparam_any (b : Nat) (vK vV : Value) (ks vs : List ByteArray) (key : ByteArray) (w : World) (h : Ctx b w vK vV ks vs) (hlen : Hid (vs.length = ks.length)) (hreach : ks.length ≤ 1000) :
    Calls Try.prog 21 #[.pointer (some ⟨b, 0, none⟩), .string key] w fun e W' => e = .returned (.string (lastN ks vs key ks.length)) ∧ Below w.heap.size w W' :=
  callsIn_wide.1 (urlparam_in Fence.wide 3 trivial trivial trivial rfl (Nat.le_refl _) b vK vV ks vs key w h.lt (cell_at h.blk 3 vK rfl) (cell_at h.blk 4 vV rfl) h.strsK h.strsV hlen hreach)

set_option maxRecDepth 100000 in
set_option maxHeartbeats 4000000 in
theorem param_any (aK aV : Option Addr) (cK cV : Nat) (ks vs : List ByteArray) (key : ByteArray) (w : World) (hK : SArg w aK ks) (hV : SArg w aV vs) (hlen : Hid (vs.length = ks.length)) (hm : ks.length ≤ 30) :
    Calls Try.prog 8 #[.slice aK ks.length cK, .slice aV vs.length cV, .string key] w fun e w' => e = .returned (.string (lastN ks vs key ks.length)) ∧ Below w.heap.size w w' := by
  have hmv : vs.length ≤ 30 := by rw [hlen.out]; exact hm
  go_enter Try.func8, Try.ntmps8
  go_wp2_with (go_at_call 19; refine (new_ctx _).mono ?_; rintro e w' ⟨rfl, rfl⟩)
  go_loopw [13] (fun i wr => ∃ (n : Nat) (vK vV : Value), n ≤ ks.length ∧ i = .int .i64 n ∧ Ctx w.heap.size wr vK vV (ks.take n) (vs.take n) ∧ Below w.heap.size w wr) (fun i _ => ks.length - (intOf i).toNat)
  case atStart => exact ⟨0, _, _, Nat.zero_le _, rfl, Ctx.nil w, (Below.refl _ w).alloc (Nat.le_refl _) _⟩
  case round =>
    obtain ⟨n, vK, vV, hn, rfl, hctx, hB⟩ := hrel
    by_cases hlt : n < ks.length
    · have hltv : n < vs.length := by rw [hlen.out]; exact hlt
      obtain ⟨b1, o1, rfl, hb1, hc1⟩ := hK n hlt
      obtain ⟨b2, o2, rfl, hb2, hc2⟩ := hV n hltv
      have hd1 := (hB.cell (p := ⟨b1, o1 + n, none⟩) hb1).trans hc1
      have hd2 := (hB.cell (p := ⟨b2, o2 + n, none⟩) hb2).trans hc2
      have hi1 : (n : Int) < (ks.length : Int) := by omega
      have hi2 : (n : Int) < (vs.length : Int) := by omega
      have hi0 : (0 : Int) ≤ (n : Int) := by omega
      clear hc1 hc2 hK hV
      go_wp2_with fail
      go_still_tail 8, (by kernel_rfl)
      change wpList _ _ _ _ _ wr.drew
      have hq1 : ks[n]?.getD ByteArray.empty = ks[n] := by simp [hlt]
      have hq2 : vs[n]?.getD ByteArray.empty = vs[n] := by simp [hltv]
      have ek := Lib.hid (take_snoc ks n hlt)
      have ev := Lib.hid (take_snoc vs n hltv)
      rw [hq1] at ek; rw [hq2] at ev
      clear hq1 hq2 hd1 hd2
      have hl1 : (ks.take n).length ≤ 1000 := by rw [List.length_take]; omega
      have hl2 : (vs.take n).length ≤ 1000 := by rw [List.length_take]; omega
      go_wp2_with (go_at_call 20; refine (add_any w.heap.size _ vK vV (ks.take n) (vs.take n) ks[n] vs[n] hctx.drew hl1 hl2).mono ?_; rintro e w' ⟨rfl, ⟨vK', vV', hctx'⟩, hB'⟩)
      go_roundw
      case rel => exact ⟨n + 1, vK', vV', by omega, by go_num, by rw [ek.out, ev.out]; exact hctx', hB.drew.trans hB'⟩
      case measure => simp [intOf]; omega
    · obtain rfl : n = ks.length := by omega
      have hlt2 : (ks.length : Int) ≤ (ks.length : Int) := by omega
      rw [List.take_length, show vs.take ks.length = vs by rw [← hlen.out, List.take_length]] at hctx
      clear hK hV
      go_wp2_with (go_at_call 21; refine (urlparam_any w.heap.size vK vV ks vs key _ hctx hlen (by omega)).mono ?_; rintro e w' ⟨rfl, hB'⟩)
      go_ret
      exact ⟨rfl, hB.trans (hB'.mono hB.size)⟩

end Go.Proofs.Ytjcjdkgoegfhkaa.Par
