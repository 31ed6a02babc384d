/- The walk of spec.parts: all parts of a pattern, or false where one is refused. Conditions: at most 2147483647 bytes. -/
import Derived.Test.YtjcjdkgoegfhkaaKeyC
import Derived.Deep.RegionHeld3
import Derived.Deep.AppendLies
import Derived.Deep.Cut
import Derived.Deep.CutRange
namespace Go.Proofs.Ytjcjdkgoegfhkaa.Seg
open Go.RowKit

theorem info27 : (Try.prog.info? 27).map (fun i => (i.zero, i.size, i.bytes)) = some (some (.agg #[.int .i64 0, .string ⟨#[]⟩, .string ⟨#[]⟩, .int .u8 0, .int .i64 0, .int .i64 0]), 6, 64) := by kernel_rfl

/-- The cells of parts, one behind the other. -/
def Part.cells (p : Part) : List Value := [.int .i64 p.kind, .string p.key, .string p.expr, .int .u8 p.tail, .int .i64 p.frm, .int .i64 p.til]
def flat : List Part → List Value
  | [] => []
  | p :: r => p.cells ++ flat r
theorem flat_append (a b : List Part) : flat (a ++ b) = flat a ++ flat b := by
  induction a with
  | nil => rfl
  | cons p r ih => simp [flat, ih]
theorem flat_one (a : List Part) (p : Part) : flat (a ++ [p]) = flat a ++ p.cells := by rw [flat_append]; simp [flat]
theorem flat_length (a : List Part) : (flat a).length = a.length * 6 := by
  induction a with
  | nil => rfl
  | cons p r ih => simp [flat, ih, Part.cells]; omega

theorem heap_new (W : World) (o : Obj) (n : Nat) (h : n = W.heap.size) : (W.alloc o).heap[n]? = some o := by subst h; exact heap_alloc_new W o

theorem own_types {w : World} {b1 b2 : Nat} {e1 e2 : TypeId} {s1 s2 n1 n2 : Nat} {v1 v2 : Value} {x1 x2 : List Value} (h1 : w.ownsRow b1 e1 s1 v1 n1 x1) (h2 : w.ownsRow b2 e2 s2 v2 n2 x2) (he : e1 ≠ e2) : v1.ownBlock = none ∨ v1.ownBlock ≠ v2.ownBlock := by
  rcases h1.2 with ⟨rfl, _⟩ | ⟨g, cap, cur, rfl, _, hg, _⟩
  · exact .inl rfl
  · refine .inr (fun e => ?_)
    rcases h2.2 with ⟨rfl, _⟩ | ⟨g', cap', cur', rfl, _, hg', _⟩
    · simp [Value.ownBlock] at e
    · simp [Value.ownBlock] at e
      subst e
      rw [hg] at hg'
      simp at hg'
      exact he hg'.2

def PartsPost (R : Option (List Part)) (w : World) (e : Ending) (w' : World) : Prop := match R with
  | some L => ∃ v0 v1, e = .returned (.tuple #[v0, v1, .bool true]) ∧ w'.ownsRow w.heap.size 27 6 v0 L.length (flat L) ∧ Below w.heap.size w w'
  | none => e = .returned (.tuple #[.slice none 0 0, .slice none 0 0, .bool false]) ∧ Below w.heap.size w w'

set_option maxRecDepth 100000 in
set_option maxHeartbeats 8000000 in
theorem parts_any (s : ByteArray) (w : World) (hs : s.size ≤ 2147483647) : Calls Try.prog 25 #[.string s] w (PartsPost (allParts s) w) := by
  obtain ⟨i9, hi9, hz0, hz1, hz2⟩ := info_parts info9
  obtain ⟨i27, hi27, hy0, hy1, hy2⟩ := info_parts info27
  obtain ⟨R, hR⟩ : ∃ R, allParts s = R := ⟨_, rfl⟩
  rw [hR]
  have hstart := Lib.hid (show (plist (s.size + 1) s).map ([] ++ ·) = R by rw [← hR]; unfold allParts; cases plist (s.size + 1) s <;> rfl)
  clear hR
  have hL0 : ((w.alloc (.cells #[] 27)).alloc (.cells #[] 9)).ownsRow w.heap.size 27 6 (.slice (some ⟨w.heap.size, 0, none⟩) 0 0) 0 (flat []) := (World.ownsRow_made w #[] 0 (Nat.le_refl _) (by decide) rfl).alloc _
  have hX0 : ((w.alloc (.cells #[] 27)).alloc (.cells #[] 9)).ownsRow w.heap.size 9 1 (.slice (some ⟨w.heap.size + 1, 0, none⟩) 0 0) 0 [] := by
    have := World.ownsRow_made (base := w.heap.size) (e := 9) (size := 1) (w.alloc (.cells #[] 27)) #[] 0 (by rw [World.size_alloc]; omega) (by decide) rfl
    rwa [World.size_alloc] at this
  have HL0 := Lib.hid hL0
  have HX0 := Lib.hid hX0
  clear hL0 hX0
  go_enter Try.func25, Try.ntmps25
  go_wp2_with fail
  go_loopw [5, 6, 7] (fun lv tv rv wr => ∃ (f : Nat) (t : ByteArray) (L : List Part) (n : Nat) (xs : List Value), rv = .string t ∧ t.size < f ∧ Hid ((plist f t).map (L ++ ·) = R) ∧ wr.ownsRow w.heap.size 27 6 lv L.length (flat L) ∧ wr.ownsRow w.heap.size 9 1 tv n xs ∧ L.length + 2 * t.size ≤ 4294967294 ∧ n + 2 * t.size ≤ 4294967294 ∧ Below w.heap.size w wr) (fun _ _ rv _ => strSize rv)
  case atStart => exact ⟨s.size + 1, s, [], 0, [], rfl, by omega, hstart, HL0.out, HX0.out, by simp only [List.length_nil]; omega, by omega, ((Below.refl _ _).alloc (Nat.le_refl _) _).alloc (by simp) _⟩
  case round =>
    obtain ⟨f, t, L, n, xs, rfl, hf, hrun, hL, hX, hn1, hn2, hB⟩ := hrel
    obtain ⟨f, rfl⟩ : ∃ f', f = f' + 1 := ⟨f - 1, by omega⟩
    by_cases h0 : t.size = 0
    · have HR := Lib.hid (show R = some L by rw [← hrun.out, plist, if_pos h0]; simp)
      have e0 : t.toList = [] := by rw [Lib.toList_data]; exact List.length_eq_zero_iff.1 (by simpa using h0)
      have t0 : (t.toList != ([] : List UInt8)) = false := by rw [e0]; rfl
      clear h0 hrun
      go_wp2_with fail
      go_ret3
      rw [HR.out]
      exact ⟨_, _, rfl, hL, hB⟩
    · have e0 : ¬ t.toList = [] := by rw [Lib.toList_data]; intro e; exact h0 (by simpa using congrArg List.length e)
      have t0 : t.toList.isEmpty = false := by simpa using e0
      clear e0
      cases hg : segOf t with
      | none =>
        obtain ⟨p, hp⟩ := np_none t wr (by omega) hg
        have HC := Lib.hid hp
        have HR := Lib.hid (show R = none by rw [← hrun.out, plist, if_neg h0, hg]; simp)
        clear hg hp h0 hrun
        obtain ⟨pk, pkey, px, pt, pf, pto⟩ := p
        go_wp2_with fail
        refine HC.out.mono ?_
        rintro e w1 ⟨rfl, hB1⟩
        dsimp only [Part.val]
        go_wp2_with fail
        go_ret3
        rw [HR.out]
        exact ⟨rfl, (hB.trans (hB1.mono hB.size)).alloc (by have := hB.size; have := hB1.size; omega) _⟩
      | some p =>
        have HC := Lib.hid (np_some t wr (by omega) p hg)
        have hpl := seg_places hg
        obtain ⟨pk, pkey, px, pt, pf, pto⟩ := p
        dsimp only at hpl
        by_cases hk : pk = 0
        · have HR := Lib.hid (show R = some (L ++ [⟨pk, pkey, px, pt, pf, pto⟩]) by rw [← hrun.out, plist, if_neg h0, hg]; simp [hk])
          have t1 : (pk == 0) = true := beq_iff_eq.2 hk
          clear hg h0 hrun hpl hk
          go_wp2_with fail
          refine HC.out.mono ?_
          rintro e w1 ⟨rfl, hB1⟩
          dsimp only [Part.val]
          have hL1 := own_below hL hB1
          have hX1 := own_below hX hB1
          have hbs : w.heap.size ≤ w1.heap.size := Nat.le_trans hB.size hB1.size
          have hB2 := hB.trans (hB1.mono hB.size)
          have hm1 : L.length + 1 ≤ maxLen := by unfold maxLen; omega
          have hm2 : n + 1 ≤ maxLen := by unfold maxLen; omega
          clear hL hX hB hB1 HC
          go_wp2_with (first | (at_builtin; refine wpList_append_own _ rfl (.tmp 25) (.tmp 27) 54 rfl w.heap.size 27 i27 _ 6 64 Try.underlying54 hi27 hy0 hy1 hy2 rfl (by decide) _ L.length (flat L) rfl ((hL1.alloc _).alloc _) ⟨w1.heap.size + 1, 0, none⟩ 1 1 [.int .i64 pk, .string pkey, .string px, .int .u8 pt, .int .i64 pf, .int .i64 pto] rfl rfl (World.news_of_block (heap_new _ _ _ (by simp))) (by simp [Value.oneCell']) hm1 (by omega) (by rw [World.size_alloc, World.size_alloc]; omega) ?_; intro v2 w2 hown2 hgrow2 _; have hX2 : w2.ownsRow w.heap.size 9 1 _ n xs := ((hX1.alloc _).alloc _).kept hgrow2 (own_types hX1 hL1 (by decide)); have hs2 := hgrow2.size; have hB3 : Below w.heap.size w w2 := Below.grown ((hB2.alloc hbs _).alloc (by rw [World.size_alloc]; omega) _) hgrow2 (by rw [World.size_alloc, World.size_alloc]; omega) (fun q e => (hL1.lt q e).1); clear hgrow2) | (at_builtin; refine wpList_append_own _ rfl (.tmp 29) (.tmp 31) 22 rfl w.heap.size 9 i9 (.string ⟨#[]⟩) 1 16 Try.underlying22 hi9 hz0 hz1 hz2 rfl (by decide) _ n xs rfl (hX2.alloc _) ⟨w2.heap.size, 0, none⟩ 1 1 [.string t] rfl rfl (cell_one_new _ _ _) (by simp [Value.oneCell']) hm2 (by omega) (by rw [World.size_alloc]; rw [World.size_alloc, World.size_alloc] at hs2; omega) ?_; intro v3 w3 hown3 hgrow3 _))
          have hL3 := (hown2.alloc _).kept hgrow3 (own_types hown2 hX2 (by decide))
          have hB4 : Below w.heap.size w w3 := Below.grown (hB3.alloc (by rw [World.size_alloc, World.size_alloc] at hs2; omega) _) hgrow3 (by rw [World.size_alloc]; rw [World.size_alloc, World.size_alloc] at hs2; omega) (fun q e => (hX2.lt q e).1)
          go_ret3
          rw [HR.out]
          exact ⟨_, _, rfl, by rw [flat_one, List.length_append]; exact hL3, hB4⟩
        · obtain ⟨_, hf0, hft, hfs⟩ := hpl.resolve_left (fun h => hk h.1)
          obtain ⟨a, rfl⟩ : ∃ a : Nat, pf = a := ⟨pf.toNat, by omega⟩
          obtain ⟨b, rfl⟩ : ∃ b : Nat, pto = b := ⟨pto.toNat, by omega⟩
          have HR := Lib.hid (show (plist f (t.extract b t.size)).map (fun r => L ++ ((if 0 < (a : Int) then [fixedPart a] else []) ++ ⟨pk, pkey, px, pt, a, b⟩ :: r)) = R by
            rw [← hrun.out, plist, if_neg h0, hg]
            simp only [hk, if_false, Int.toNat_natCast]
            cases plist f (t.extract b t.size) <;> rfl)
          have t1 : (pk == 0) = false := beq_eq_false_iff_ne.2 hk
          clear hg h0 hrun hpl hk
          go_upto_if 35 with (first | (go_at_call 9; refine HC.out.mono ?_; rintro e w1 ⟨rfl, hB1⟩; dsimp only [Part.val]))
          have hL1 := own_below hL hB1
          have hX1 := own_below hX hB1
          have hbs : w.heap.size ≤ w1.heap.size := Nat.le_trans hB.size hB1.size
          have hB2 := hB.trans (hB1.mono hB.size)
          have hL2 := hL1.alloc (.cells #[.int .i64 pk, .string pkey, .string px, .int .u8 pt, .int .i64 a, .int .i64 b] 27)
          have hX2 := hX1.alloc (.cells #[.int .i64 pk, .string pkey, .string px, .int .u8 pt, .int .i64 a, .int .i64 b] 27)
          have hB3 := hB2.alloc hbs (.cells #[.int .i64 pk, .string pkey, .string px, .int .u8 pt, .int .i64 a, .int .i64 b] 27)
          have hblk := heap_alloc_new w1 (.cells #[.int .i64 pk, .string pkey, .string px, .int .u8 pt, .int .i64 a, .int .i64 b] 27)
          have hLlt := fun q e => (hL1.lt q e).2
          have hXlt := fun q e => (hX1.lt q e).2
          have hs2 := World.size_alloc w1 (.cells #[.int .i64 pk, .string pkey, .string px, .int .u8 pt, .int .i64 a, .int .i64 b] 27)
          clear hL hX hB hB1 HC hL1 hX1 hB2
          generalize hbp : w1.heap.size = bp at *
          generalize hW2 : w1.alloc (.cells #[.int .i64 pk, .string pkey, .string px, .int .u8 pt, .int .i64 a, .int .i64 b] 27) = W2 at *
          clear hW2 hbp
          have hs3 : bp < W2.heap.size := by omega
          clear hs2
          go_cut [5, 6] from 13 to 65 (fun lv tv wc => ∃ (L2 : List Part) (n2 : Nat) (xs2 : List Value), Hid (L2 = L ++ (if 0 < (a : Int) then [fixedPart a] else [])) ∧ wc.ownsRow w.heap.size 27 6 lv L2.length (flat L2) ∧ wc.ownsRow w.heap.size 9 1 tv n2 xs2 ∧ L2.length ≤ L.length + 1 ∧ n2 ≤ n + 1 ∧ wc.heap[bp]? = some (.cells #[.int .i64 pk, .string pkey, .string px, .int .u8 pt, .int .i64 a, .int .i64 b] 27 (0, 0)) ∧ (∀ q, lv.ownBlock = some q → q ≠ bp) ∧ (∀ q, tv.ownBlock = some q → q ≠ bp) ∧ Below w.heap.size w wc)
          case first =>
            by_cases ha : 0 < (a : Int)
            · have HL2 := Lib.hid (show L ++ [fixedPart a] = L ++ (if 0 < (a : Int) then [fixedPart a] else []) by rw [if_pos ha])
              have k1 : (0 : Int) ≤ (a : Int) := by omega
              have k2 : (a : Int) ≤ (t.size : Int) := by omega
              have hm1 : L.length + 1 ≤ maxLen := by unfold maxLen; omega
              have hm2 : n + 1 ≤ maxLen := by unfold maxLen; omega
              have hc4 : W2.cell? ⟨bp, 4, none⟩ = some (.int .i64 a) := by rw [cell_of_row W2 bp 4 _ 27 (0, 0) hblk]; rfl
              go_wp2_with fail
              go_region_held3 (fun w' => w'.cell? ⟨bp, 4, none⟩ = some (.int .i64 a))
                (first
                  | go_keep
                  | (rw [hgA.cell_far _ (by first | omega | (simp; done) | (simp; omega)) (fun e => absurd (hLlt _ e.symm) (by simp))]; assumption)
                  | (rw [hgB.cell_far _ (by first | omega | (simp; done) | (simp; omega)) (fun e => absurd (hXlt _ e.symm) (by simp))]; assumption))
                (first | (refine step_append_lies _ (by rfl) (.tmp 36) (.tmp 40) 54 (by rfl) w.heap.size 27 i27 _ 6 64 Try.underlying54 hi27 hy0 hy1 hy2 rfl (by omega) _ L.length (flat L) (by rfl) (by repeat (first | exact hL2 | exact (World.ownsRow.kept (by repeat (first | exact hL2 | refine World.ownsRow.alloc ?_ _ | refine World.ownsRow.drew ?_)) hgB aphgB) | refine World.ownsRow.alloc ?_ _ | refine World.ownsRow.drew ?_)) ⟨_, 0, none⟩ 1 1 [.int .i64 0, .string ⟨#[]⟩, .string ⟨#[]⟩, .int .u8 0, .int .i64 0, .int .i64 a] (by rfl) (by rfl) (World.news_of_block (t := 27) (fr := (0, 0)) (by first | exact heap_new _ _ _ (by first | rfl | (simp; done)) | exact (Below.heap_alloc _ _ _ (by first | omega | (simp; done) | (simp; omega))).trans (heap_new _ _ _ (by first | rfl | (simp; done))) | exact (hgB.block _ (by first | omega | (simp; done) | (simp; omega)) (fun e => by have := hXlt _ e.symm; omega)).trans (heap_new _ _ _ (by first | rfl | (simp; done))) | exact (hgB.block _ (by first | omega | (simp; done) | (simp; omega)) (fun e => by have := hXlt _ e.symm; omega)).trans ((Below.heap_alloc _ _ _ (by first | omega | (simp; done) | (simp; omega))).trans (heap_new _ _ _ (by first | rfl | (simp; done)))))) (by simp [Value.oneCell']) (by omega) hm1 (by omega) (by first | omega | (simp; done) | (simp; omega)) _ rfl ?_; intro gA capA wA hownA hgA hatA hltA; have aphgA := own_types hX2 hL2 (by decide); have hszA : W2.heap.size ≤ wA.heap.size := (by have hq := hgA.size; first | omega | (simp at hq; omega))) | (refine step_append_lies _ (by rfl) (.tmp 42) (.tmp 47) 22 (by rfl) w.heap.size 9 i9 (.string ⟨#[]⟩) 1 16 Try.underlying22 hi9 hz0 hz1 hz2 rfl (by omega) _ n xs (by rfl) (by repeat (first | exact hX2 | exact (World.ownsRow.kept (by repeat (first | exact hX2 | refine World.ownsRow.alloc ?_ _ | refine World.ownsRow.drew ?_)) hgA aphgA) | refine World.ownsRow.alloc ?_ _ | refine World.ownsRow.drew ?_)) ⟨_, 0, none⟩ 1 1 [.string (t.extract 0 a)] (by rfl) (by rfl) (World.news_of_block (t := 9) (fr := (0, 0)) (by first | exact heap_new _ _ _ (by first | rfl | (simp; done)) | exact (Below.heap_alloc _ _ _ (by first | omega | (simp; done) | (simp; omega))).trans (heap_new _ _ _ (by first | rfl | (simp; done))) | exact (hgA.block _ (by first | omega | (simp; done) | (simp; omega)) (fun e => by have := hLlt _ e.symm; omega)).trans (heap_new _ _ _ (by first | rfl | (simp; done))) | exact (hgA.block _ (by first | omega | (simp; done) | (simp; omega)) (fun e => by have := hLlt _ e.symm; omega)).trans ((Below.heap_alloc _ _ _ (by first | omega | (simp; done) | (simp; omega))).trans (heap_new _ _ _ (by first | rfl | (simp; done)))))) (by simp [Value.oneCell']) (by omega) hm2 (by omega) (by first | omega | (simp; done) | (simp; omega)) _ rfl ?_; intro gB capB wB hownB hgB hatB hltB; have aphgB := own_types hL2 hX2 (by decide); have hszB : W2.heap.size ≤ wB.heap.size := (by have hq := hgB.size; first | omega | (simp at hq; omega))))
              all_goals (
                go_wp2_with fail
                go_meet
                case rel =>
                  refine ⟨L ++ [fixedPart a], n + 1, xs ++ [.string (t.extract 0 a)], HL2, ?_, ?_, by simp, Nat.le_refl _, ?_, ?_, ?_, ?_⟩
                  · rw [flat_one, List.length_append]
                    (first | exact hownA | exact World.ownsRow.kept (by repeat (first | exact hownA | refine World.ownsRow.alloc ?_ _ | refine World.ownsRow.drew ?_)) hgB (own_types hownA (show wA.ownsRow w.heap.size 9 1 _ n xs from World.ownsRow.kept (by repeat (first | exact hX2 | refine World.ownsRow.alloc ?_ _ | refine World.ownsRow.drew ?_)) hgA aphgA) (by decide)))
                  · (first | exact hownB | exact World.ownsRow.kept (by repeat (first | exact hownB | refine World.ownsRow.alloc ?_ _ | refine World.ownsRow.drew ?_)) hgA (own_types hownB (show wB.ownsRow w.heap.size 27 6 _ L.length (flat L) from World.ownsRow.kept (by repeat (first | exact hL2 | refine World.ownsRow.alloc ?_ _ | refine World.ownsRow.drew ?_)) hgB aphgB) (by decide)))
                  · repeat (first | exact hblk | refine (hgB.block _ (by first | omega | (simp; done) | (simp; omega)) (fun e => absurd (hXlt _ e.symm) (by simp))).trans ?_ | refine (hgA.block _ (by first | omega | (simp; done) | (simp; omega)) (fun e => absurd (hLlt _ e.symm) (by simp))).trans ?_ | refine (Below.heap_alloc _ _ _ (by first | omega | (simp; done) | (simp; omega))).trans ?_)
                  · (intro q e; simp [Value.ownBlock] at e; subst e; rcases hatA with h | h; (have := hLlt _ h; omega); (first | omega | (simp at h; omega)))
                  · (intro q e; simp [Value.ownBlock] at e; subst e; rcases hatB with h | h; (have := hXlt _ h; omega); (first | omega | (simp at h; omega)))
                  · repeat (first | exact hB3 | refine Below.grown ?_ hgB (by first | omega | (simp; done) | (simp; omega)) (fun q e => (hX2.lt q e).1) | refine Below.grown ?_ hgA (by first | omega | (simp; done) | (simp; omega)) (fun q e => (hL2.lt q e).1) | refine Below.alloc ?_ (by first | omega | (simp; done) | (simp; omega)) _ | refine Below.drew ?_))
            · have HL2 := Lib.hid (show L = L ++ (if 0 < (a : Int) then [fixedPart a] else []) by rw [if_neg ha, List.append_nil])
              have k1 : (a : Int) ≤ 0 := by omega
              clear ha
              go_wp2_with fail
              go_meet
              case rel => exact ⟨L, n, xs, HL2, hL2, hX2, by omega, by omega, hblk, fun q e => by have := hLlt q e; omega, fun q e => by have := hXlt q e; omega, hB3⟩
          case rest =>
            obtain ⟨L2, n2, xs2, HL2, hL3, hX3, hn3, hn4, hblk3, hLb, hXb, hB4⟩ := hcut
            clear hL2 hX2 hB3 hblk hLlt hXlt
            have k1 : (0 : Int) ≤ (a : Int) := by omega
            have k2 : (a : Int) ≤ (b : Int) := by omega
            have k3 : (b : Int) ≤ (t.size : Int) := by omega
            have hm1 : L2.length + 1 ≤ maxLen := by unfold maxLen; omega
            have hm2 : n2 + 1 ≤ maxLen := by unfold maxLen; omega
            have hLlt := fun q e => (hL3.lt q e).2
            have hXlt := fun q e => (hX3.lt q e).2
            have hbc : bp < wc.heap.size := by
              rcases Nat.lt_or_ge bp wc.heap.size with h | h
              · exact h
              · rw [Array.getElem?_eq_none h] at hblk3; cases hblk3
            have hc : wc.cell? ⟨bp, 0, none⟩ = some (.int .i64 pk) ∧ wc.cell? ⟨bp, 1, none⟩ = some (.string pkey) ∧ wc.cell? ⟨bp, 2, none⟩ = some (.string px) ∧ wc.cell? ⟨bp, 3, none⟩ = some (.int .u8 pt) ∧ wc.cell? ⟨bp, 4, none⟩ = some (.int .i64 a) ∧ wc.cell? ⟨bp, 5, none⟩ = some (.int .i64 b) := by
              refine ⟨?_, ?_, ?_, ?_, ?_, ?_⟩ <;> (rw [cell_of_row wc bp _ _ 27 (0, 0) hblk3]; rfl)
            have hch := hc
            obtain ⟨hc0, hc1, hc2, hc3, hc4, hc5⟩ := hc
            have HRn := Lib.hid (show (plist f (t.extract b t.size)).map (L2 ++ [⟨pk, pkey, px, pt, (a : Int), (b : Int)⟩] ++ ·) = R by rw [← HR.out, HL2.out]; cases plist f (t.extract b t.size) <;> simp)
            go_wp2_with fail
            go_region_held3 (fun w' => w'.cell? ⟨bp, 0, none⟩ = some (.int .i64 pk) ∧ w'.cell? ⟨bp, 1, none⟩ = some (.string pkey) ∧ w'.cell? ⟨bp, 2, none⟩ = some (.string px) ∧ w'.cell? ⟨bp, 3, none⟩ = some (.int .u8 pt) ∧ w'.cell? ⟨bp, 4, none⟩ = some (.int .i64 a) ∧ w'.cell? ⟨bp, 5, none⟩ = some (.int .i64 b))
              (first
                | go_keep
                | (go_split_ands; refine ⟨?_, ?_, ?_, ?_, ?_, ?_⟩ <;> (rw [hgA.cell_far _ (by first | omega | (simp; done) | (simp; omega)) (fun e => absurd (hLb _ e.symm) (by simp))]; assumption))
                | (go_split_ands; refine ⟨?_, ?_, ?_, ?_, ?_, ?_⟩ <;> (rw [hgB.cell_far _ (by first | omega | (simp; done) | (simp; omega)) (fun e => absurd (hXb _ e.symm) (by simp))]; assumption)))
              (first | (refine step_append_lies _ (by rfl) (.tmp 49) (.tmp 51) 54 (by rfl) w.heap.size 27 i27 _ 6 64 Try.underlying54 hi27 hy0 hy1 hy2 rfl (by omega) _ L2.length (flat L2) (by rfl) (by repeat (first | exact hL3 | exact (World.ownsRow.kept (by repeat (first | exact hL3 | refine World.ownsRow.alloc ?_ _ | refine World.ownsRow.drew ?_)) hgB aphgB) | refine World.ownsRow.alloc ?_ _ | refine World.ownsRow.drew ?_)) ⟨_, 0, none⟩ 1 1 [.int .i64 pk, .string pkey, .string px, .int .u8 pt, .int .i64 a, .int .i64 b] (by rfl) (by rfl) (World.news_of_block (t := 27) (fr := (0, 0)) (by first | exact heap_new _ _ _ (by first | rfl | (simp; done)) | exact (Below.heap_alloc _ _ _ (by first | omega | (simp; done) | (simp; omega))).trans (heap_new _ _ _ (by first | rfl | (simp; done))) | exact (hgB.block _ (by first | omega | (simp; done) | (simp; omega)) (fun e => by have := hXlt _ e.symm; omega)).trans (heap_new _ _ _ (by first | rfl | (simp; done))) | exact (hgB.block _ (by first | omega | (simp; done) | (simp; omega)) (fun e => by have := hXlt _ e.symm; omega)).trans ((Below.heap_alloc _ _ _ (by first | omega | (simp; done) | (simp; omega))).trans (heap_new _ _ _ (by first | rfl | (simp; done)))))) (by simp [Value.oneCell']) (by omega) hm1 (by omega) (by first | omega | (simp; done) | (simp; omega)) _ rfl ?_; intro gA capA wA hownA hgA hatA hltA; have aphgA := own_types hX3 hL3 (by decide); have hszA : wc.heap.size ≤ wA.heap.size := (by have hq := hgA.size; first | omega | (simp at hq; omega))) | (refine step_append_lies _ (by rfl) (.tmp 53) (.tmp 60) 22 (by rfl) w.heap.size 9 i9 (.string ⟨#[]⟩) 1 16 Try.underlying22 hi9 hz0 hz1 hz2 rfl (by omega) _ n2 xs2 (by rfl) (by repeat (first | exact hX3 | exact (World.ownsRow.kept (by repeat (first | exact hX3 | refine World.ownsRow.alloc ?_ _ | refine World.ownsRow.drew ?_)) hgA aphgA) | refine World.ownsRow.alloc ?_ _ | refine World.ownsRow.drew ?_)) ⟨_, 0, none⟩ 1 1 [.string (t.extract a b)] (by rfl) (by rfl) (World.news_of_block (t := 9) (fr := (0, 0)) (by first | exact heap_new _ _ _ (by first | rfl | (simp; done)) | exact (Below.heap_alloc _ _ _ (by first | omega | (simp; done) | (simp; omega))).trans (heap_new _ _ _ (by first | rfl | (simp; done))) | exact (hgA.block _ (by first | omega | (simp; done) | (simp; omega)) (fun e => by have := hLlt _ e.symm; omega)).trans (heap_new _ _ _ (by first | rfl | (simp; done))) | exact (hgA.block _ (by first | omega | (simp; done) | (simp; omega)) (fun e => by have := hLlt _ e.symm; omega)).trans ((Below.heap_alloc _ _ _ (by first | omega | (simp; done) | (simp; omega))).trans (heap_new _ _ _ (by first | rfl | (simp; done)))))) (by simp [Value.oneCell']) (by omega) hm2 (by omega) (by first | omega | (simp; done) | (simp; omega)) _ rfl ?_; intro gB capB wB hownB hgB hatB hltB; have aphgB := own_types hL3 hX3 (by decide); have hszB : wc.heap.size ≤ wB.heap.size := (by have hq := hgB.size; first | omega | (simp at hq; omega))))
            all_goals (
              go_wp2_with fail
              go_roundw
              case rel =>
                refine ⟨f, t.extract b t.size, L2 ++ [⟨pk, pkey, px, pt, a, b⟩], n2 + 1, xs2 ++ [.string (t.extract a b)], ?_, ?_, HRn, ?_, ?_, ?_, ?_, ?_⟩
                · rfl
                · rw [ByteArray.size_extract]; omega
                · rw [flat_one, List.length_append]
                  (first | exact hownA | exact World.ownsRow.kept (by repeat (first | exact hownA | refine World.ownsRow.alloc ?_ _ | refine World.ownsRow.drew ?_)) hgB (own_types hownA (show wA.ownsRow w.heap.size 9 1 _ n2 xs2 from World.ownsRow.kept (by repeat (first | exact hX3 | refine World.ownsRow.alloc ?_ _ | refine World.ownsRow.drew ?_)) hgA aphgA) (by decide)))
                · (first | exact hownB | exact World.ownsRow.kept (by repeat (first | exact hownB | refine World.ownsRow.alloc ?_ _ | refine World.ownsRow.drew ?_)) hgA (own_types hownB (show wB.ownsRow w.heap.size 27 6 _ L2.length (flat L2) from World.ownsRow.kept (by repeat (first | exact hL3 | refine World.ownsRow.alloc ?_ _ | refine World.ownsRow.drew ?_)) hgB aphgB) (by decide)))
                · rw [ByteArray.size_extract, List.length_append, List.length_singleton]; omega
                · rw [ByteArray.size_extract]; omega
                · repeat (first | exact hB4 | refine Below.grown ?_ hgB (by first | omega | (simp; done) | (simp; omega)) (fun q e => (hX3.lt q e).1) | refine Below.grown ?_ hgA (by first | omega | (simp; done) | (simp; omega)) (fun q e => (hL3.lt q e).1) | refine Below.alloc ?_ (by first | omega | (simp; done) | (simp; omega)) _ | refine Below.drew ?_)
              · (simp only [strSize, ByteArray.size_extract]; omega))

end Go.Proofs.Ytjcjdkgoegfhkaa.Seg
