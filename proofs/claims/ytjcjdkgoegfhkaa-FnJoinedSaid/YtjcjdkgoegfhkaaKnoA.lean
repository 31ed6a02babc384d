/- The walk of Known, begun: what stands ahead of the loop. Conditions: at most 2147483650 bytes. -/
import Derived.Test.YtjcjdkgoegfhkaaJoiH
import Derived.Test.YtjcjdkgoegfhkaaKnoM
namespace Go.Proofs.Ytjcjdkgoegfhkaa.Joi
open Go.RowKit Seg

theorem info75 : (Try.prog.info? 75).map (fun i => (i.zero, i.size, i.bytes)) = some (some (.agg #[.slice none 0 0, .slice none 0 0, .int .i64 0, .int .i64 0]), 4, 64) := by kernel_rfl

/-- A slash of the expression stands in what is left of it, too. -/
def Left (E t : ByteArray) : Prop := 47 ∈ E.data.toList → 47 ∈ t.data.toList

theorem Left.tail {E t : ByteArray} (h : Left E t) (k : Nat) (hk : ∀ c ∈ t.data.toList.take k, c ≠ 47) : Left E (t.extract k t.size) := fun q => by
  have := h q
  rw [← List.take_append_drop k t.data.toList] at this
  rcases List.mem_append.1 this with q | q
  · exact absurd rfl (hk 47 q)
  · rw [ext_list, List.take_of_length_le (by simp)]; exact q
theorem Left.init {E t : ByteArray} (h : Left E t) (k : Nat) (hk : ∀ c ∈ t.data.toList.drop k, c ≠ 47) : Left E (t.extract 0 k) := fun q => by
  have := h q
  rw [← List.take_append_drop k t.data.toList] at this
  rcases List.mem_append.1 this with q | q
  · rw [ext_list]; simpa using q
  · exact absurd rfl (hk 47 q)

/-- A block that is known whole, behind a store into it. -/
theorem blk_set {w : World} {b : Nat} {cs : Array Value} {t : TypeId} (h : w.heap[b]? = some (.cells cs t (0, 0))) (j : Nat) (v : Value) : (w.setCell ⟨b, j, none⟩ v).heap[b]? = some (.cells (cs.setIfInBounds j v) t (0, 0)) := by
  simp [World.setCell, Array.getElem?_modify, h]
/-- A store elsewhere leaves a row as it is. -/
theorem own_set2 {w : World} {base : Nat} {e : TypeId} {size n : Nat} {v : Value} {xs : List Value} (h : w.ownsRow base e size v n xs) {p : Addr} (hp : ∀ q, v.ownBlock = some q → q ≠ p.block) (u : Value) : (w.setCell p u).ownsRow base e size v n xs :=
  h.kept (row := some p.block) ⟨rfl, rfl, rfl, by simp [World.setCell], fun k _ hne => setCell_other w p u k (fun e => hne (by rw [e]))⟩ (by
    cases hv : v.ownBlock with
    | none => exact .inl rfl
    | some q => exact .inr (fun e => hp q hv (by simpa using e)))

/-- Two stores into the atom, two new blocks. -/
theorem two_set {base bp n : Nat} {v : Value} {xs : List Value} {c0 c1 c2 c3 : Value} {w0 w : World} (hblk : w.heap[bp]? = some (.cells #[c0, c1, c2, c3] 75 (0, 0))) (hO : w.ownsRow base 75 4 v n xs) (hOb : ∀ q, v.ownBlock = some q → q < bp) (hB : Below base w0 w) (hb : base ≤ bp) (hs : bp < w.heap.size) (v0 v1 : Value) (o1 o2 : Obj) :
    (((((w.setCell ⟨bp, 0, none⟩ v0).setCell ⟨bp, 1, none⟩ v1).alloc o1).alloc o2).drew.heap[bp]? = some (.cells #[v0, v1, c2, c3] 75 (0, 0)) ∧ ((((w.setCell ⟨bp, 0, none⟩ v0).setCell ⟨bp, 1, none⟩ v1).alloc o1).alloc o2).drew.ownsRow base 75 4 v n xs) ∧ Below base w0 ((((w.setCell ⟨bp, 0, none⟩ v0).setCell ⟨bp, 1, none⟩ v1).alloc o1).alloc o2).drew := by
  have hs1 : ((w.setCell ⟨bp, 0, none⟩ v0).setCell ⟨bp, 1, none⟩ v1).heap.size = w.heap.size := by simp [World.setCell]
  have hne : ∀ q, v.ownBlock = some q → q ≠ bp := fun q e => by have := hOb q e; omega
  refine ⟨⟨?_, ?_⟩, ?_⟩
  · exact (Below.heap_alloc _ _ _ (by rw [World.size_alloc]; omega)).trans ((Below.heap_alloc _ _ _ (by omega)).trans (blk_set (blk_set hblk 0 v0) 1 v1))
  · exact (((own_set2 (own_set2 hO (p := ⟨bp, 0, none⟩) hne v0) (p := ⟨bp, 1, none⟩) hne v1).alloc _).alloc _).drew
  · exact ((((hB.setCell (p := ⟨bp, 0, none⟩) hb v0).setCell (p := ⟨bp, 1, none⟩) hb v1).alloc (by have := hB.size; omega) _).alloc (by rw [World.size_alloc]; have := hB.size; omega) _).drew

theorem one_four {v0 v1 : Value} {a b : Int} (h0 : v0.oneCell' = true) (h1 : v1.oneCell' = true) : ∀ u ∈ [v0, v1, .int .i64 a, .int .i64 b], u.oneCell' = true := by
  intro u hu
  simp only [List.mem_cons, List.not_mem_nil, or_false] at hu
  rcases hu with h | h | h | h
  · rw [h]; exact h0
  · rw [h]; exact h1
  · rw [h]; rfl
  · rw [h]; rfl

theorem plain_ne (c : UInt8) (h : plainI (c.toNat : Int) = true) : c ≠ 47 := fun e => by subst e; revert h; decide

set_option maxRecDepth 100000 in
set_option maxHeartbeats 8000000 in
theorem known_any (E : ByteArray) (w : World) (hE : E.size ≤ 2147483650) : Calls Try.prog 34 #[.string E] w (KnownPost E w) := by
  obtain ⟨i75, hi75, hz0, hz1, hz2⟩ := info_parts info75
  obtain ⟨i5, hi5, hy0, hy1, hy2⟩ := info_parts info5
  have HO := Lib.hid (show (w.alloc (.cells #[] 75)).ownsRow w.heap.size 75 4 (.slice (some ⟨w.heap.size, 0, none⟩) 0 0) 0 [] from World.ownsRow_made w #[] 0 (Nat.le_refl _) (by decide) rfl)
  have HB0 : Below w.heap.size w (w.alloc (.cells #[] 75)) := (Below.refl _ w).alloc (Nat.le_refl _) _
  have HBg := fun w => Lib.hid (begins_any E ⟨#[94]⟩ w (by decide))
  go_enter Try.func34, Try.ntmps34
  go_upto_if 15 with (go_at_call 31; refine (HBg _).out.mono ?_; rintro e w' ⟨rfl, rfl⟩)
  generalize hW1 : w.alloc (.cells #[] 75) = W1 at *
  clear hW1
  go_cut [5] from 12 to 178 (fun sv wc => ∃ t, sv = .string t ∧ t.size ≤ E.size ∧ Hid (Left E t) ∧ W1 = wc)
  case first =>
    as_aux_lemma =>
      cases hb : beg E ⟨#[94]⟩ with
      | false =>
        go_wp2_with fail
        go_meet
        case rel => exact ⟨E, rfl, Nat.le_refl _, Lib.hid (fun q => q), rfl⟩
      | true =>
        obtain ⟨r, hr⟩ := beg_one hb
        have h1 : (1 : Int) ≤ (E.size : Int) := by
          have : E.data.toList.length = E.size := by simp
          rw [hr] at this
          simp at this
          omega
        have HL := Lib.hid (Left.tail (E := E) (t := E) (fun q => q) 1 (by rw [hr]; simp))
        clear hb hr
        go_wp2_with fail
        go_meet
        case rel => exact ⟨E.extract 1 E.size, rfl, by rw [ByteArray.size_extract]; omega, HL, rfl⟩
  case rest =>
    obtain ⟨t, rfl, ht, hL, rfl⟩ := hcut
    clear HBg
    go_upto_region 5 with fail
    obtain ⟨B, hBd⟩ : ∃ B, B = (decide (0 < t.size) && decide (t.data.toList[t.size - 1]? = some 36)) := ⟨_, rfl⟩
    have HBd := Lib.hid hBd
    clear hBd
    go_cut [28] from 20 to 27 (fun bv wc => bv = .bool B ∧ W1 = wc)
    case first =>
      as_aux_lemma =>
        by_cases h1 : 0 < t.size
        · have hlt1 : t.size - 1 < t.size := by omega
          have kk : ((t.size : Int) - 1) = ((t.size - 1 : Nat) : Int) := by omega
          have k1 : (0 : Int) < (t.size : Int) := by omega
          have b1 := byte_beq t (t.size - 1) hlt1 36 36 rfl
          have HBe := Lib.hid (show B = decide (t.data.toList[t.size - 1]? = some 36) by rw [HBd.out, decide_eq_true h1, Bool.true_and])
          clear h1
          cases h2 : decide (t.data.toList[t.size - 1]? = some 36) with
          | true =>
            rw [h2] at b1 HBe
            clear h2
            go_wp2_with fail
            go_meet
            case rel => exact ⟨by rw [HBe.out]; try rfl, rfl⟩
          | false =>
            rw [h2] at b1 HBe
            clear h2
            go_wp2_with fail
            go_meet
            case rel => exact ⟨by rw [HBe.out]; try rfl, rfl⟩
        · have HBe := Lib.hid (show B = false by rw [HBd.out, decide_eq_false h1, Bool.false_and])
          have k1 : (t.size : Int) ≤ 0 := by omega
          clear h1
          go_wp2_with fail
          go_meet
          case rel => exact ⟨by rw [HBe.out]; try rfl, rfl⟩
    case rest =>
      obtain ⟨rfl, rfl⟩ := hcut
      go_upto_if 28 with fail
      go_cut [5] from 12 to 178 (fun sv wc => ∃ t, sv = .string t ∧ t.size ≤ E.size ∧ Hid (Left E t) ∧ W1 = wc)
      case first =>
        as_aux_lemma =>
          cases B with
          | false =>
            go_wp2_with fail
            go_meet
            case rel => exact ⟨t, rfl, ht, hL, rfl⟩
          | true =>
            have h3 := HBd.out
            simp at h3
            have k1 : (1 : Int) ≤ (t.size : Int) := by omega
            have kk : ((t.size : Int) - 1) = ((t.size - 1 : Nat) : Int) := by omega
            have HL := Lib.hid (hL.out.init (t.size - 1) (by
              have hl : t.data.toList.length = t.size := by simp
              rw [List.drop_eq_getElem_cons (by omega), List.drop_eq_nil_of_le (by omega)]
              have h4 : t.data.toList[t.size - 1]? = some 36 := by simpa using h3.2
              rw [List.getElem?_eq_getElem (by omega)] at h4
              intro c hc
              simp at hc
              have h5 := Option.some.inj h4
              rw [hc]
              simp at h5
              rw [h5]
              decide))
            clear h3 HBd hL
            go_wp2_with fail
            go_meet
            case rel => exact ⟨t.extract 0 (t.size - 1), rfl, by rw [ByteArray.size_extract]; omega, HL, rfl⟩
      case rest =>
        clear HBd hL ht
        obtain ⟨t, rfl, ht, hL, rfl⟩ := hcut
        go_wp2_with fail
        go_loopw [4, 5] (fun ov sv wr => ∃ (t : ByteArray) (n : Nat) (xs : List Value), sv = .string t ∧ Hid (Left E t) ∧ n + t.size ≤ 2147483650 ∧ wr.ownsRow w.heap.size 75 4 ov n xs ∧ Below w.heap.size w wr) (fun _ sv _ => strSize sv)
        case atStart => exact ⟨t, 0, [], rfl, hL, by omega, HO.out, HB0⟩
        case round =>
          clear hL ht
          obtain ⟨t, n, xs, rfl, hL, hn, hO, hB⟩ := hrel
          by_cases h0 : t.size = 0
          · as_aux_lemma =>
              have e0 : t.data.toList = [] := List.length_eq_zero_iff.1 (by simpa using h0)
              have t0 : (t.toList != ([] : List UInt8)) = false := by rw [Lib.toList_data, e0]; rfl
              have hno := Lib.hid (show 47 ∉ E.data.toList from fun q => by have := hL.out q; rw [e0] at this; simp at this)
              have t1 : t.toList.isEmpty = true := by rw [Lib.toList_data, e0]; rfl
              obtain ⟨rfl, _⟩ | ⟨g, cap, cur, rfl, _⟩ := hO.2
              all_goals (
                clear e0 h0 hL
                go_wp2_with fail
                go_ret2
                exact ⟨_, _, rfl, fun _ => hno.out, hB⟩)
          · have e0 : ¬ t.data.toList = [] := by intro e; exact h0 (by simpa using congrArg List.length e)
            have t0 : (t.toList != ([] : List UInt8)) = true := by rw [Lib.toList_data]; simpa using e0
            have t1 : t.toList.isEmpty = false := by rw [Lib.toList_data]; simpa using e0
            have h1 : (0 : Int) < (t.size : Int) := by omega
            clear e0
            go_upto_region 8 with fail
            go_cut [7] from 33 to 35 (fun pv wc => pv = .pointer (some ⟨wr.heap.size, 0, none⟩) ∧ wr.alloc (.cells #[.slice none 0 0, .slice none 0 0, .int .i64 1, .int .i64 1] 75) = wc)
            case first =>
              as_aux_lemma =>
                go_wp2_with fail
                go_meet
                case rel => exact ⟨rfl, rfl⟩
            case rest =>
              obtain ⟨rfl, rfl⟩ := hcut
              have HPl := fun w => Lib.hid (plain_any (t[0].toNat : Int) w)
              have hblk := heap_alloc_new wr (.cells #[.slice none 0 0, .slice none 0 0, .int .i64 1, .int .i64 1] 75)
              have hO2 := hO.alloc (.cells #[.slice none 0 0, .slice none 0 0, .int .i64 1, .int .i64 1] 75)
              have hB2 := hB.alloc hB.size (.cells #[.slice none 0 0, .slice none 0 0, .int .i64 1, .int .i64 1] 75)
              have hs2 := World.size_alloc wr (.cells #[.slice none 0 0, .slice none 0 0, .int .i64 1, .int .i64 1] 75)
              have hbB := hB.size
              have hOb := fun q e => (hO.lt q e).2
              generalize hbp : wr.heap.size = bp at *
              generalize hW2 : wr.alloc (.cells #[.slice none 0 0, .slice none 0 0, .int .i64 1, .int .i64 1] 75) = W2 at *
              clear hW2 hbp hO hB HO HB0
              go_step
              go_step
              go_cut [5] from 33 to 174 (fun sv wc => ∃ (t2 : ByteArray) (v0 v1 : Value), sv = .string t2 ∧ Hid (Left E t2) ∧ t2.size < t.size ∧ wc.heap[bp]? = some (.cells #[v0, v1, .int .i64 1, .int .i64 1] 75 (0, 0)) ∧ v0.oneCell' = true ∧ v1.oneCell' = true ∧ wc.ownsRow w.heap.size 75 4 u4 n xs ∧ Below w.heap.size w wc)
              case first =>
                as_aux_lemma =>
                  go_upto_if 36 with (go_at_call 35; refine (HPl _).out.mono ?_; rintro e w' ⟨rfl, rfl⟩)
                  cases hp : plainI (t[0].toNat : Int) with
                  | true =>
                    as_aux_lemma =>
                      have h47 := plain_ne _ hp
                      have HL := Lib.hid (hL.out.tail 1 (by
                        have h4 : 0 < t.data.toList.length := by
                          have : t.data.toList.length = t.size := by simp
                          omega
                        intro c hc
                        rw [List.take_one, List.head?_eq_getElem?, List.getElem?_eq_getElem h4] at hc
                        simp at hc
                        rw [hc]
                        exact h47))
                      have c0 : W2.cell? ⟨bp, 0, none⟩ = some (.slice none 0 0) := by rw [cell_of_row W2 bp 0 _ 75 (0, 0) hblk]; rfl
                      have c1 : W2.cell? ⟨bp, 1, none⟩ = some (.slice none 0 0) := by rw [cell_of_row W2 bp 1 _ 75 (0, 0) hblk]; rfl
                      have f0 : W2.frozen? ⟨bp, 0, none⟩ = false := frozen_of_row W2 bp 0 _ 75 hblk
                      have f1 : W2.frozen? ⟨bp, 1, none⟩ = false := frozen_of_row W2 bp 1 _ 75 hblk
                      clear hp h47
                      go_wp2_with fail
                      go_region
                      all_goals (
                        go_wp2_with fail
                        go_meet
                        case rel => exact ⟨_, _, _, rfl, HL, by rw [ByteArray.size_extract]; omega, (two_set hblk hO2 hOb hB2 hbB (by omega) _ _ _ _).1.1, rfl, rfl, (two_set hblk hO2 hOb hB2 hbB (by omega) _ _ _ _).1.2, (two_set hblk hO2 hOb hB2 hbB (by omega) _ _ _ _).2⟩)
                  | false =>
                    have HB2 := fun w => Lib.hid (begins_any t ⟨#[92, 100]⟩ w (by decide))
                    clear hp HPl
                    go_wp2_with fail
                    refine (HB2 _).out.mono ?_
                    rintro e w' ⟨rfl, rfl⟩
                    cases hb : beg t ⟨#[92, 100]⟩ with
                    | true =>
                      as_aux_lemma =>
                        obtain ⟨r, hr⟩ : ∃ r, t.data.toList = 92 :: 100 :: r := by
                          unfold beg at hb
                          rw [List.isPrefixOf_iff_prefix] at hb
                          obtain ⟨r, hr⟩ := hb
                          exact ⟨r, hr.symm⟩
                        have h2 : (2 : Int) ≤ (t.size : Int) := by
                          have : t.data.toList.length = t.size := by simp
                          rw [hr] at this
                          simp at this
                          omega
                        have HL := Lib.hid (hL.out.tail 2 (by
                          intro c hc
                          rw [hr] at hc
                          simp at hc
                          rcases hc with rfl | rfl <;> decide))
                        have c0 : W2.cell? ⟨bp, 0, none⟩ = some (.slice none 0 0) := by rw [cell_of_row W2 bp 0 _ 75 (0, 0) hblk]; rfl
                        have c1 : W2.cell? ⟨bp, 1, none⟩ = some (.slice none 0 0) := by rw [cell_of_row W2 bp 1 _ 75 (0, 0) hblk]; rfl
                        have f0 : W2.frozen? ⟨bp, 0, none⟩ = false := frozen_of_row W2 bp 0 _ 75 hblk
                        have f1 : W2.frozen? ⟨bp, 1, none⟩ = false := frozen_of_row W2 bp 1 _ 75 hblk
                        clear hb hr
                        go_wp2_with fail
                        go_region
                        all_goals (
                          go_wp2_with fail
                          go_meet
                          case rel => exact ⟨_, _, _, rfl, HL, by rw [ByteArray.size_extract]; omega, (two_set hblk hO2 hOb hB2 hbB (by omega) _ _ _ _).1.1, rfl, rfl, (two_set hblk hO2 hOb hB2 hbB (by omega) _ _ _ _).1.2, (two_set hblk hO2 hOb hB2 hbB (by omega) _ _ _ _).2⟩)
                    | false =>
                      clear hb HB2
                      have b1 := byte_beq t 0 (by omega) 91 91 rfl
                      by_cases h91 : t.data.toList[0]? = some 91
                      · rw [decide_eq_true h91] at b1
                        have HI := fun w => Lib.hid (index_any t 93 93 rfl w (by omega))
                        go_wp2_with fail
                        refine (HI _).out.mono ?_
                        rintro e w' ⟨rfl, rfl⟩
                        generalize hW : ix t 93 = W
                        by_cases hk : oi W < 2
                        · clear HI b1 h91 hL hblk hO2 hOb hs2
                          go_wp2_with fail
                          go_ret2
                          exact ⟨_, _, rfl, fun h => by simp at h, hB2⟩
                        · obtain ⟨k, rfl⟩ : ∃ k, W = some k := by
                            cases W with
                            | none => exact absurd (by decide) hk
                            | some k => exact ⟨k, rfl⟩
                          have hkt := ix_lt hW
                          have hg93 := Lib.hid (ixL_get 93 _ k hW)
                          have HG91 := Lib.hid h91
                          have hk2 : (2 : Int) ≤ (k : Int) := by simp only [oi] at hk; omega
                          have HS := Lib.hid (St.start hblk hO2 hOb hB2 hbB)
                          simp only [oi]
                          clear HI b1 h91 hk hW hblk hO2 hB2
                          go_wp2_with fail
                          go_loopw [9] (fun iv wl => ∃ (i n0 n1 : Nat) (v0 v1 : Value) (x0 x1 : List Value), iv = .int .i64 i ∧ 1 ≤ i ∧ i ≤ k ∧ Hid (∀ c ∈ t.data.toList.take i, c ≠ 47) ∧ n0 ≤ i ∧ n1 ≤ i ∧ Hid (St w w.heap.size bp u4 n xs #[v0, v1, .int .i64 1, .int .i64 1] v0 n0 x0 v1 n1 x1 wl)) (fun iv _ => k - (intOf iv).toNat)
                          case atStart =>
                            refine ⟨1, 0, 0, _, _, [], [], rfl, Nat.le_refl _, by omega, Lib.hid (fun c hc => ?_), Nat.zero_le _, Nat.zero_le _, HS⟩
                            have h4 : 0 < t.data.toList.length := by
                              have : t.data.toList.length = t.size := by simp
                              omega
                            have h5 := HG91.out
                            rw [List.take_one, List.head?_eq_getElem?, h5] at hc
                            simp at hc
                            rw [hc]
                            decide
                          case round =>
                            clear HS
                            obtain ⟨i, n0, n1, v0, v1, x0, x1, rfl, hi1, hik, hcl, hn0, hn1, HS⟩ := hrel
                            by_cases hil : i < k
                            · as_aux_lemma =>
                                have l0 : (0 : Int) ≤ (i : Int) := by omega
                                have l1 : (i : Int) < (k : Int) := by omega
                                have l2 : (i : Int) < (t.size : Int) := by omega
                                have l3 : i < t.size := by omega
                                have HP1 := fun w => Lib.hid (plain_any (t[i].toNat : Int) w)
                                have HN1 := Lib.hid (plain_ne t[i])
                                go_upto_region 21 with fail
                                go_region
                                go_upto_region 22 with fail
                                have HS2 := Lib.hid HS.out.drew
                                generalize hW3 : wr.drew = W3 at *
                                clear hW3 HS
                                obtain ⟨Bq, hBq⟩ : ∃ Bq, Bq = (decide (i + 2 < k) && decide (t.data.toList[i + 1]? = some 45)) := ⟨_, rfl⟩
                                have HBq := Lib.hid hBq
                                clear hBq
                                go_cut [88] from 78 to 87 (fun bv wc => bv = .bool Bq ∧ W3 = wc)
                                case first =>
                                  as_aux_lemma =>
                                    by_cases q1 : i + 2 < k
                                    · have q2 : (i : Int) + 2 < (k : Int) := by omega
                                      have q3 : i + 1 < t.size := by omega
                                      have q4 : (i : Int) + 1 < (t.size : Int) := by omega
                                      have b1 := byte_beq t (i + 1) q3 45 45 rfl
                                      have HBe := Lib.hid (show Bq = decide (t.data.toList[i + 1]? = some 45) by rw [HBq.out, decide_eq_true q1, Bool.true_and])
                                      clear q1
                                      cases h2 : decide (t.data.toList[i + 1]? = some 45) with
                                      | true =>
                                        rw [h2] at b1 HBe
                                        clear h2
                                        go_wp2_with fail
                                        go_meet
                                        case rel => exact ⟨by rw [HBe.out]; try rfl, rfl⟩
                                      | false =>
                                        rw [h2] at b1 HBe
                                        clear h2
                                        go_wp2_with fail
                                        go_meet
                                        case rel => exact ⟨by rw [HBe.out]; try rfl, rfl⟩
                                    · have HBe := Lib.hid (show Bq = false by rw [HBq.out, decide_eq_false q1, Bool.false_and])
                                      have q2 : (k : Int) ≤ (i : Int) + 2 := by omega
                                      clear q1
                                      go_wp2_with fail
                                      go_meet
                                      case rel => exact ⟨by rw [HBe.out]; try rfl, rfl⟩
                                case rest =>
                                  obtain ⟨rfl, rfl⟩ := hcut
                                  go_upto_if 88 with fail
                                  go_cut [9, 11] from 89 to 94 (fun iv hv wc => ∃ (i2 : Nat) (hi : UInt8), iv = .int .i64 i2 ∧ hv = .int .u8 (hi.toNat : Int) ∧ i ≤ i2 ∧ i2 < k ∧ Hid (plainI (t[i].toNat : Int) = true → plainI (hi.toNat : Int) = true → ∀ c ∈ t.data.toList.take (i2 + 1), c ≠ 47) ∧ W3 = wc)
                                  case first =>
                                    as_aux_lemma =>
                                      cases Bq with
                                      | false =>
                                        go_wp2_with fail
                                        go_meet
                                        case rel => exact ⟨i, t[i], rfl, rfl, Nat.le_refl _, hil, Lib.hid (fun p _ => clean_step l3 hcl.out (at_ne l3 (HN1.out p))), rfl⟩
                                      | true =>
                                        have q0 := HBq.out.symm
                                        simp only [Bool.and_eq_true, decide_eq_true_eq] at q0
                                        have q2 : (i : Int) + 2 < (k : Int) := by omega
                                        have q3 : (i : Int) + 2 < (t.size : Int) := by omega
                                        have q4 : i + 2 < t.size := by omega
                                        have HQ := Lib.hid q0.2
                                        clear q0 HBq
                                        go_wp2_with fail
                                        go_meet
                                        case rel => exact ⟨i + 2, t[i + 2], rfl, rfl, by omega, by omega, Lib.hid (fun p q => clean_step q4 (clean_step (by omega) (clean_step l3 hcl.out (at_ne l3 (HN1.out p))) (by rw [HQ.out]; decide)) (at_ne q4 (plain_ne _ q))), rfl⟩
                                  case rest =>
                                    obtain ⟨i2, hi, rfl, rfl, hii, hik2, hcl2, rfl⟩ := hcut
                                    have HP2 := fun w => Lib.hid (plain_any (hi.toNat : Int) w)
                                    generalize hp1 : plainI (t[i].toNat : Int) = p1 at *
                                    generalize hp2 : plainI (hi.toNat : Int) = p2 at *
                                    clear HN1 hp1 hp2 HBq hcl
                                    go_wp2_with fail
                                    refine (HP1 _).out.mono ?_
                                    rintro e w' ⟨rfl, rfl⟩
                                    cases p1 with
                                    | false =>
                                      go_wp2_with fail
                                      go_ret2
                                      exact ⟨_, _, rfl, fun h => by simp at h, HS2.out.bel⟩
                                    | true =>
                                      go_wp2_with fail
                                      refine (HP2 _).out.mono ?_
                                      rintro e w' ⟨rfl, rfl⟩
                                      cases p2 with
                                      | false =>
                                        go_wp2_with fail
                                        go_ret2
                                        exact ⟨_, _, rfl, fun h => by simp at h, HS2.out.bel⟩
                                      | true =>
                                        by_cases hlh : (t[i].toNat : Int) ≤ (hi.toNat : Int)
                                        · have HC2 := Lib.hid (hcl2.out (by simp) (by simp))
                                          clear hcl2 HP1 HP2
                                          go_upto_region 27 with fail
                                          refine Tail.wp_region_drew (by kernel_rfl) ?_
                                          have HD := Lib.hid HS2.out.drew
                                          have hSD := HD.out.two
                                          generalize W3.drew = D at *
                                          refine wpAny_take (i := 7) (v := ?_) (Tail.ns (Tail.ns (Tail.ns (Tail.ns (Tail.ns (Tail.ns (Tail.ns Tail.n0))))))) (by kernel_rfl) (by kernel_rfl) (by kernel_rfl) (fun _ _ _ h => h) (Or.inl ⟨by rfl, ?_⟩) ?_
                                          rotate_left
                                          · intro w; go_simp; try (with_reducible rfl)
                                          try simp only [Act.put, List.setIfInBounds_toArray, List.set_cons_zero, List.set_cons_succ]
                                          refine Tail.wpAny_of_tail (S := fun w' => w'.cell? ⟨bp, 0, none⟩ = some v0 ∧ w'.cell? ⟨bp, 1, none⟩ = some v1) (T := fun j => decide (11 ≤ j)) _ _ _ _ ?_
                                          refine Tail.wpAnyT_take (i := 0) (v := ?_) Tail.n0 (by kernel_rfl) (by kernel_rfl) (by kernel_rfl) (by kernel_rfl) (fun _ _ _ h => h) (Or.inl ⟨by rfl, ?_⟩) hSD ?_
                                          rotate_left
                                          · intro w hSw; (try dsimp only at hSw); go_simp; try (with_reducible rfl)
                                          try simp only [Act.put, List.setIfInBounds_toArray, List.set_cons_zero, List.set_cons_succ]
                                          refine Tail.wpAnyT_take (i := 1) (v := ?_) (Tail.ns Tail.n0) (by kernel_rfl) (by kernel_rfl) (by kernel_rfl) (by kernel_rfl) (fun _ _ _ h => h) (Or.inl ⟨by rfl, ?_⟩) hSD ?_
                                          rotate_left
                                          · intro w hSw; (try dsimp only at hSw); go_simp; try (with_reducible rfl)
                                          try simp only [Act.put, List.setIfInBounds_toArray, List.set_cons_zero, List.set_cons_succ]
                                          refine Tail.wpAnyT_take (i := 2) (v := ?_) (Tail.ns (Tail.ns Tail.n0)) (by kernel_rfl) (by kernel_rfl) (by kernel_rfl) (by kernel_rfl) (fun _ _ _ h => h) (Or.inl ⟨by rfl, ?_⟩) hSD ?_
                                          rotate_left
                                          · intro w hSw; (try dsimp only at hSw); go_simp; try (with_reducible rfl)
                                          try simp only [Act.put, List.setIfInBounds_toArray, List.set_cons_zero, List.set_cons_succ]
                                          refine Tail.wpAnyT_take (i := 5) (v := ?_) (Tail.ns (Tail.ns (Tail.ns (Tail.ns (Tail.ns Tail.n0))))) (by kernel_rfl) (by kernel_rfl) (by kernel_rfl) (by kernel_rfl) (fun _ _ _ h => h) (Or.inl ⟨by rfl, ?_⟩) hSD ?_
                                          rotate_left
                                          · intro w hSw; (try dsimp only at hSw); go_simp; try (with_reducible rfl)
                                          try simp only [Act.put, List.setIfInBounds_toArray, List.set_cons_zero, List.set_cons_succ]
                                          refine Tail.wpAnyT_take (i := 6) (v := ?_) (Tail.ns (Tail.ns (Tail.ns (Tail.ns (Tail.ns (Tail.ns Tail.n0)))))) (by kernel_rfl) (by kernel_rfl) (by kernel_rfl) (by kernel_rfl) (fun _ _ _ h => h) (Or.inl ⟨by rfl, ?_⟩) hSD ?_
                                          rotate_left
                                          · intro w hSw; (try dsimp only at hSw); go_simp; try (with_reducible rfl)
                                          try simp only [Act.put, List.setIfInBounds_toArray, List.set_cons_zero, List.set_cons_succ]
                                          have HS := HD
                                          clear HD hSD HS2
                                          refine Tail.wpAnyT_ready (rs := [3, 8]) (by kernel_rfl) (by simp) ?_
                                          refine Tail.AllT.cons (Tail.ns (Tail.ns (Tail.ns Tail.n0))) (fun K hK => ?_) ?_
                                          · go_simp
                                            have HA := Lib.hid (News.new HS.out (.int .u8 (t[i].toNat : Int)))
                                            replace HS := Lib.hid (HS.out.alloc (.cells #[.int .u8 (t[i].toNat : Int)] 5))
                                            generalize D.alloc (.cells #[.int .u8 (t[i].toNat : Int)] 5) = X1 at *
                                            generalize D.heap.size = bA at *
                                            refine hK.out _ _ (fun _ => HS.out.two) (fun _ => ?_)
                                            clear hK K
                                            try simp only [Act.put, List.setIfInBounds_toArray, List.set_cons_zero, List.set_cons_succ]
                                            refine Tail.wpAnyT_ready (rs := [4, 8]) (by kernel_rfl) (by simp) ?_
                                            refine Tail.AllT.cons (Tail.ns (Tail.ns (Tail.ns (Tail.ns Tail.n0)))) (fun K hK => ?_) ?_
                                            · refine step_append_lies _ (by rfl) (.tmp 109) (.tmp 111) 73 (by rfl) (bp + 1) 5 i5 (.int .u8 0) 1 1 Try.underlying73 hi5 hy0 hy1 hy2 rfl (by decide) v0 n0 x0 (by rfl) HS.out.r0 ⟨bA, 0, none⟩ 1 1 [.int .u8 (t[i].toNat : Int)] (by rfl) rfl (World.news_of_block HA.out.hn) (by simp [Value.oneCell']) (by decide) (by unfold maxLen; omega) (by omega) HS.out.lt _ rfl ?_
                                              intro g0 c0 X2 hown hgrow hat hlt
                                              replace HS := Lib.hid (HS.out.append hown hgrow hat)
                                              clear hown hgrow hat hlt HA
                                              refine hK.out _ _ (fun _ => HS.out.two) (fun _ => ?_)
                                              clear hK K
                                              try simp only [Act.put, List.setIfInBounds_toArray, List.set_cons_zero, List.set_cons_succ]
                                              refine Tail.wpAnyT_take (i := 10) (v := ?_) (Tail.ns (Tail.ns (Tail.ns (Tail.ns (Tail.ns (Tail.ns (Tail.ns (Tail.ns (Tail.ns (Tail.ns Tail.n0)))))))))) (by kernel_rfl) (by kernel_rfl) (by kernel_rfl) (by kernel_rfl) (fun _ _ _ h => h) (Or.inl ⟨by rfl, ?_⟩) HS.out.two ?_
                                              rotate_left
                                              · intro w hSw; (try dsimp only at hSw); go_simp; try (with_reducible rfl)
                                              try simp only [Act.put, List.setIfInBounds_toArray, List.set_cons_zero, List.set_cons_succ]
                                              refine Tail.wpAnyT_ready (rs := [8]) (by kernel_rfl) (by simp) ?_
                                              refine Tail.AllT.cons (Tail.ns (Tail.ns (Tail.ns (Tail.ns (Tail.ns (Tail.ns (Tail.ns (Tail.ns Tail.n0)))))))) (fun K hK => ?_) ?_
                                              · go_simp
                                                have HB := Lib.hid (News.new HS.out (.int .u8 (hi.toNat : Int)))
                                                replace HS := Lib.hid (HS.out.alloc (.cells #[.int .u8 (hi.toNat : Int)] 5))
                                                generalize X2.alloc (.cells #[.int .u8 (hi.toNat : Int)] 5) = X3 at *
                                                generalize X2.heap.size = bB at *
                                                refine hK.out _ _ (fun _ => HS.out.two) (fun _ => ?_)
                                                clear hK K
                                                try simp only [Act.put, List.setIfInBounds_toArray, List.set_cons_zero, List.set_cons_succ]
                                                refine Tail.wpAnyT_ready (rs := [9]) (by kernel_rfl) (by simp) ?_
                                                refine Tail.AllT.cons (Tail.ns (Tail.ns (Tail.ns (Tail.ns (Tail.ns (Tail.ns (Tail.ns (Tail.ns (Tail.ns Tail.n0))))))))) (fun K hK => ?_) ?_
                                                · refine step_append_lies _ (by rfl) (.tmp 114) (.tmp 116) 73 (by rfl) (bp + 1) 5 i5 (.int .u8 0) 1 1 Try.underlying73 hi5 hy0 hy1 hy2 rfl (by decide) v1 n1 x1 (by rfl) HS.out.r1 ⟨bB, 0, none⟩ 1 1 [.int .u8 (hi.toNat : Int)] (by rfl) rfl (World.news_of_block HB.out.hn) (by simp [Value.oneCell']) (by decide) (by unfold maxLen; omega) (by omega) HS.out.lt _ rfl ?_
                                                  intro g1 c1 X4 hown hgrow hat hlt
                                                  replace HS := Lib.hid (HS.out.swap.append hown hgrow hat).swap
                                                  clear hown hgrow hat hlt HB
                                                  refine hK.out _ _ (fun _ => HS.out.two) (fun _ => ?_)
                                                  clear hK K
                                                  try simp only [Act.put, List.setIfInBounds_toArray, List.set_cons_zero, List.set_cons_succ]
                                                  refine Tail.wpAnyT_ready (rs := [11]) (by kernel_rfl) (by simp) ?_
                                                  refine Tail.AllT.cons (Tail.ns (Tail.ns (Tail.ns (Tail.ns (Tail.ns (Tail.ns (Tail.ns (Tail.ns (Tail.ns (Tail.ns (Tail.ns Tail.n0))))))))))) (fun K hK => ?_) ?_
                                                  · have q0 : X4.cell? ⟨bp, 0, none⟩ = some v0 := HS.out.two.1
                                                    have q1 : X4.frozen? ⟨bp, 0, none⟩ = false := HS.out.frozen 0
                                                    go_simp
                                                    replace HS := Lib.hid (HS.out.set0 (.slice (some ⟨g0, 0, none⟩) (n0 + 1) c0))
                                                    clear q0 q1
                                                    generalize X4.setCell ⟨bp, 0, none⟩ (.slice (some ⟨g0, 0, none⟩) (n0 + 1) c0) = X5 at *
                                                    refine hK.out _ _ (fun h => by simp at h) (fun _ => ?_)
                                                    clear hK K
                                                    try simp only [Act.put, List.setIfInBounds_toArray, List.set_cons_zero, List.set_cons_succ]
                                                    refine Tail.wpAnyT_ready (rs := [12]) (by kernel_rfl) (by simp) ?_
                                                    refine Tail.AllT.cons (Tail.ns (Tail.ns (Tail.ns (Tail.ns (Tail.ns (Tail.ns (Tail.ns (Tail.ns (Tail.ns (Tail.ns (Tail.ns (Tail.ns Tail.n0)))))))))))) (fun K hK => ?_) ?_
                                                    · go_simp
                                                      refine hK.out _ _ (fun h => by simp at h) (fun _ => ?_)
                                                      clear hK K
                                                      try simp only [Act.put, List.setIfInBounds_toArray, List.set_cons_zero, List.set_cons_succ]
                                                      refine Tail.wpAnyT_ready (rs := [13]) (by kernel_rfl) (by simp) ?_
                                                      refine Tail.AllT.cons (Tail.ns (Tail.ns (Tail.ns (Tail.ns (Tail.ns (Tail.ns (Tail.ns (Tail.ns (Tail.ns (Tail.ns (Tail.ns (Tail.ns (Tail.ns Tail.n0))))))))))))) (fun K hK => ?_) ?_
                                                      · have q0 : X5.cell? ⟨bp, 1, none⟩ = some v1 := HS.out.two.2
                                                        have q1 : X5.frozen? ⟨bp, 1, none⟩ = false := HS.out.frozen 1
                                                        go_simp
                                                        replace HS := Lib.hid (HS.out.set1 (.slice (some ⟨g1, 0, none⟩) (n1 + 1) c1))
                                                        clear q0 q1
                                                        generalize X5.setCell ⟨bp, 1, none⟩ (.slice (some ⟨g1, 0, none⟩) (n1 + 1) c1) = X7 at *
                                                        refine hK.out _ _ (fun h => by simp at h) (fun _ => ?_)
                                                        clear hK K
                                                        try simp only [Act.put, List.setIfInBounds_toArray, List.set_cons_zero, List.set_cons_succ]
                                                        refine Tail.wpAnyT_done (by kernel_rfl) ?_ _
                                                        go_wp2_with fail
                                                        go_roundw
                                                        case rel => exact ⟨i2 + 1, n0 + 1, n1 + 1, _, _, _, _, rfl, by omega, by omega, HC2, by omega, by omega, HS⟩
                                                        case measure => simp only [intOf]; omega
                                                      exact Tail.AllT.nil
                                                    exact Tail.AllT.nil
                                                  exact Tail.AllT.nil
                                                exact Tail.AllT.nil
                                              exact Tail.AllT.nil
                                            refine Tail.AllT.cons (Tail.ns (Tail.ns (Tail.ns (Tail.ns (Tail.ns (Tail.ns (Tail.ns (Tail.ns Tail.n0)))))))) (fun K hK => ?_) ?_
                                            · go_simp
                                              have HB := Lib.hid (News.new HS.out (.int .u8 (hi.toNat : Int)))
                                              replace HA := Lib.hid (HA.out.alloc (.cells #[.int .u8 (hi.toNat : Int)] 5))
                                              replace HS := Lib.hid (HS.out.alloc (.cells #[.int .u8 (hi.toNat : Int)] 5))
                                              generalize X1.alloc (.cells #[.int .u8 (hi.toNat : Int)] 5) = X8 at *
                                              generalize X1.heap.size = bB at *
                                              refine hK.out _ _ (fun _ => HS.out.two) (fun _ => ?_)
                                              clear hK K
                                              try simp only [Act.put, List.setIfInBounds_toArray, List.set_cons_zero, List.set_cons_succ]
                                              refine Tail.wpAnyT_ready (rs := [4]) (by kernel_rfl) (by simp) ?_
                                              refine Tail.AllT.cons (Tail.ns (Tail.ns (Tail.ns (Tail.ns Tail.n0)))) (fun K hK => ?_) ?_
                                              · refine step_append_lies _ (by rfl) (.tmp 109) (.tmp 111) 73 (by rfl) (bp + 1) 5 i5 (.int .u8 0) 1 1 Try.underlying73 hi5 hy0 hy1 hy2 rfl (by decide) v0 n0 x0 (by rfl) HS.out.r0 ⟨bA, 0, none⟩ 1 1 [.int .u8 (t[i].toNat : Int)] (by rfl) rfl (World.news_of_block HA.out.hn) (by simp [Value.oneCell']) (by decide) (by unfold maxLen; omega) (by omega) HS.out.lt _ rfl ?_
                                                intro g0 c0 X9 hown hgrow hat hlt
                                                replace HB := Lib.hid (HB.out.append (m := n0 + 1) (cap := c0) hgrow hat)
                                                replace HS := Lib.hid (HS.out.append hown hgrow hat)
                                                clear hown hgrow hat hlt HA
                                                refine hK.out _ _ (fun _ => HS.out.two) (fun _ => ?_)
                                                clear hK K
                                                try simp only [Act.put, List.setIfInBounds_toArray, List.set_cons_zero, List.set_cons_succ]
                                                refine Tail.wpAnyT_take (i := 10) (v := ?_) (Tail.ns (Tail.ns (Tail.ns (Tail.ns (Tail.ns (Tail.ns (Tail.ns (Tail.ns (Tail.ns (Tail.ns Tail.n0)))))))))) (by kernel_rfl) (by kernel_rfl) (by kernel_rfl) (by kernel_rfl) (fun _ _ _ h => h) (Or.inl ⟨by rfl, ?_⟩) HS.out.two ?_
                                                rotate_left
                                                · intro w hSw; (try dsimp only at hSw); go_simp; try (with_reducible rfl)
                                                try simp only [Act.put, List.setIfInBounds_toArray, List.set_cons_zero, List.set_cons_succ]
                                                refine Tail.wpAnyT_ready (rs := [9]) (by kernel_rfl) (by simp) ?_
                                                refine Tail.AllT.cons (Tail.ns (Tail.ns (Tail.ns (Tail.ns (Tail.ns (Tail.ns (Tail.ns (Tail.ns (Tail.ns Tail.n0))))))))) (fun K hK => ?_) ?_
                                                · refine step_append_lies _ (by rfl) (.tmp 114) (.tmp 116) 73 (by rfl) (bp + 1) 5 i5 (.int .u8 0) 1 1 Try.underlying73 hi5 hy0 hy1 hy2 rfl (by decide) v1 n1 x1 (by rfl) HS.out.r1 ⟨bB, 0, none⟩ 1 1 [.int .u8 (hi.toNat : Int)] (by rfl) rfl (World.news_of_block HB.out.hn) (by simp [Value.oneCell']) (by decide) (by unfold maxLen; omega) (by omega) HS.out.lt _ rfl ?_
                                                  intro g1 c1 X10 hown hgrow hat hlt
                                                  replace HS := Lib.hid (HS.out.swap.append hown hgrow hat).swap
                                                  clear hown hgrow hat hlt HB
                                                  refine hK.out _ _ (fun _ => HS.out.two) (fun _ => ?_)
                                                  clear hK K
                                                  try simp only [Act.put, List.setIfInBounds_toArray, List.set_cons_zero, List.set_cons_succ]
                                                  refine Tail.wpAnyT_ready (rs := [11]) (by kernel_rfl) (by simp) ?_
                                                  refine Tail.AllT.cons (Tail.ns (Tail.ns (Tail.ns (Tail.ns (Tail.ns (Tail.ns (Tail.ns (Tail.ns (Tail.ns (Tail.ns (Tail.ns Tail.n0))))))))))) (fun K hK => ?_) ?_
                                                  · have q0 : X10.cell? ⟨bp, 0, none⟩ = some v0 := HS.out.two.1
                                                    have q1 : X10.frozen? ⟨bp, 0, none⟩ = false := HS.out.frozen 0
                                                    go_simp
                                                    replace HS := Lib.hid (HS.out.set0 (.slice (some ⟨g0, 0, none⟩) (n0 + 1) c0))
                                                    clear q0 q1
                                                    generalize X10.setCell ⟨bp, 0, none⟩ (.slice (some ⟨g0, 0, none⟩) (n0 + 1) c0) = X11 at *
                                                    refine hK.out _ _ (fun h => by simp at h) (fun _ => ?_)
                                                    clear hK K
                                                    try simp only [Act.put, List.setIfInBounds_toArray, List.set_cons_zero, List.set_cons_succ]
                                                    refine Tail.wpAnyT_ready (rs := [12]) (by kernel_rfl) (by simp) ?_
                                                    refine Tail.AllT.cons (Tail.ns (Tail.ns (Tail.ns (Tail.ns (Tail.ns (Tail.ns (Tail.ns (Tail.ns (Tail.ns (Tail.ns (Tail.ns (Tail.ns Tail.n0)))))))))))) (fun K hK => ?_) ?_
                                                    · go_simp
                                                      refine hK.out _ _ (fun h => by simp at h) (fun _ => ?_)
                                                      clear hK K
                                                      try simp only [Act.put, List.setIfInBounds_toArray, List.set_cons_zero, List.set_cons_succ]
                                                      refine Tail.wpAnyT_ready (rs := [13]) (by kernel_rfl) (by simp) ?_
                                                      refine Tail.AllT.cons (Tail.ns (Tail.ns (Tail.ns (Tail.ns (Tail.ns (Tail.ns (Tail.ns (Tail.ns (Tail.ns (Tail.ns (Tail.ns (Tail.ns (Tail.ns Tail.n0))))))))))))) (fun K hK => ?_) ?_
                                                      · have q0 : X11.cell? ⟨bp, 1, none⟩ = some v1 := HS.out.two.2
                                                        have q1 : X11.frozen? ⟨bp, 1, none⟩ = false := HS.out.frozen 1
                                                        go_simp
                                                        replace HS := Lib.hid (HS.out.set1 (.slice (some ⟨g1, 0, none⟩) (n1 + 1) c1))
                                                        clear q0 q1
                                                        generalize X11.setCell ⟨bp, 1, none⟩ (.slice (some ⟨g1, 0, none⟩) (n1 + 1) c1) = X13 at *
                                                        refine hK.out _ _ (fun h => by simp at h) (fun _ => ?_)
                                                        clear hK K
                                                        try simp only [Act.put, List.setIfInBounds_toArray, List.set_cons_zero, List.set_cons_succ]
                                                        refine Tail.wpAnyT_done (by kernel_rfl) ?_ _
                                                        go_wp2_with fail
                                                        go_roundw
                                                        case rel => exact ⟨i2 + 1, n0 + 1, n1 + 1, _, _, _, _, rfl, by omega, by omega, HC2, by omega, by omega, HS⟩
                                                        case measure => simp only [intOf]; omega
                                                      exact Tail.AllT.nil
                                                    exact Tail.AllT.nil
                                                  exact Tail.AllT.nil
                                                exact Tail.AllT.nil
                                              exact Tail.AllT.nil
                                            exact Tail.AllT.nil
                                          refine Tail.AllT.cons (Tail.ns (Tail.ns (Tail.ns (Tail.ns (Tail.ns (Tail.ns (Tail.ns (Tail.ns Tail.n0)))))))) (fun K hK => ?_) ?_
                                          · go_simp
                                            have HB := Lib.hid (News.new HS.out (.int .u8 (hi.toNat : Int)))
                                            replace HS := Lib.hid (HS.out.alloc (.cells #[.int .u8 (hi.toNat : Int)] 5))
                                            generalize D.alloc (.cells #[.int .u8 (hi.toNat : Int)] 5) = X14 at *
                                            generalize D.heap.size = bB at *
                                            refine hK.out _ _ (fun _ => HS.out.two) (fun _ => ?_)
                                            clear hK K
                                            try simp only [Act.put, List.setIfInBounds_toArray, List.set_cons_zero, List.set_cons_succ]
                                            refine Tail.wpAnyT_ready (rs := [3]) (by kernel_rfl) (by simp) ?_
                                            refine Tail.AllT.cons (Tail.ns (Tail.ns (Tail.ns Tail.n0))) (fun K hK => ?_) ?_
                                            · go_simp
                                              have HA := Lib.hid (News.new HS.out (.int .u8 (t[i].toNat : Int)))
                                              replace HB := Lib.hid (HB.out.alloc (.cells #[.int .u8 (t[i].toNat : Int)] 5))
                                              replace HS := Lib.hid (HS.out.alloc (.cells #[.int .u8 (t[i].toNat : Int)] 5))
                                              generalize X14.alloc (.cells #[.int .u8 (t[i].toNat : Int)] 5) = X15 at *
                                              generalize X14.heap.size = bA at *
                                              refine hK.out _ _ (fun _ => HS.out.two) (fun _ => ?_)
                                              clear hK K
                                              try simp only [Act.put, List.setIfInBounds_toArray, List.set_cons_zero, List.set_cons_succ]
                                              refine Tail.wpAnyT_ready (rs := [4]) (by kernel_rfl) (by simp) ?_
                                              refine Tail.AllT.cons (Tail.ns (Tail.ns (Tail.ns (Tail.ns Tail.n0)))) (fun K hK => ?_) ?_
                                              · refine step_append_lies _ (by rfl) (.tmp 109) (.tmp 111) 73 (by rfl) (bp + 1) 5 i5 (.int .u8 0) 1 1 Try.underlying73 hi5 hy0 hy1 hy2 rfl (by decide) v0 n0 x0 (by rfl) HS.out.r0 ⟨bA, 0, none⟩ 1 1 [.int .u8 (t[i].toNat : Int)] (by rfl) rfl (World.news_of_block HA.out.hn) (by simp [Value.oneCell']) (by decide) (by unfold maxLen; omega) (by omega) HS.out.lt _ rfl ?_
                                                intro g0 c0 X16 hown hgrow hat hlt
                                                replace HB := Lib.hid (HB.out.append (m := n0 + 1) (cap := c0) hgrow hat)
                                                replace HS := Lib.hid (HS.out.append hown hgrow hat)
                                                clear hown hgrow hat hlt HA
                                                refine hK.out _ _ (fun _ => HS.out.two) (fun _ => ?_)
                                                clear hK K
                                                try simp only [Act.put, List.setIfInBounds_toArray, List.set_cons_zero, List.set_cons_succ]
                                                refine Tail.wpAnyT_take (i := 10) (v := ?_) (Tail.ns (Tail.ns (Tail.ns (Tail.ns (Tail.ns (Tail.ns (Tail.ns (Tail.ns (Tail.ns (Tail.ns Tail.n0)))))))))) (by kernel_rfl) (by kernel_rfl) (by kernel_rfl) (by kernel_rfl) (fun _ _ _ h => h) (Or.inl ⟨by rfl, ?_⟩) HS.out.two ?_
                                                rotate_left
                                                · intro w hSw; (try dsimp only at hSw); go_simp; try (with_reducible rfl)
                                                try simp only [Act.put, List.setIfInBounds_toArray, List.set_cons_zero, List.set_cons_succ]
                                                refine Tail.wpAnyT_ready (rs := [9]) (by kernel_rfl) (by simp) ?_
                                                refine Tail.AllT.cons (Tail.ns (Tail.ns (Tail.ns (Tail.ns (Tail.ns (Tail.ns (Tail.ns (Tail.ns (Tail.ns Tail.n0))))))))) (fun K hK => ?_) ?_
                                                · refine step_append_lies _ (by rfl) (.tmp 114) (.tmp 116) 73 (by rfl) (bp + 1) 5 i5 (.int .u8 0) 1 1 Try.underlying73 hi5 hy0 hy1 hy2 rfl (by decide) v1 n1 x1 (by rfl) HS.out.r1 ⟨bB, 0, none⟩ 1 1 [.int .u8 (hi.toNat : Int)] (by rfl) rfl (World.news_of_block HB.out.hn) (by simp [Value.oneCell']) (by decide) (by unfold maxLen; omega) (by omega) HS.out.lt _ rfl ?_
                                                  intro g1 c1 X17 hown hgrow hat hlt
                                                  replace HS := Lib.hid (HS.out.swap.append hown hgrow hat).swap
                                                  clear hown hgrow hat hlt HB
                                                  refine hK.out _ _ (fun _ => HS.out.two) (fun _ => ?_)
                                                  clear hK K
                                                  try simp only [Act.put, List.setIfInBounds_toArray, List.set_cons_zero, List.set_cons_succ]
                                                  refine Tail.wpAnyT_ready (rs := [11]) (by kernel_rfl) (by simp) ?_
                                                  refine Tail.AllT.cons (Tail.ns (Tail.ns (Tail.ns (Tail.ns (Tail.ns (Tail.ns (Tail.ns (Tail.ns (Tail.ns (Tail.ns (Tail.ns Tail.n0))))))))))) (fun K hK => ?_) ?_
                                                  · have q0 : X17.cell? ⟨bp, 0, none⟩ = some v0 := HS.out.two.1
                                                    have q1 : X17.frozen? ⟨bp, 0, none⟩ = false := HS.out.frozen 0
                                                    go_simp
                                                    replace HS := Lib.hid (HS.out.set0 (.slice (some ⟨g0, 0, none⟩) (n0 + 1) c0))
                                                    clear q0 q1
                                                    generalize X17.setCell ⟨bp, 0, none⟩ (.slice (some ⟨g0, 0, none⟩) (n0 + 1) c0) = X18 at *
                                                    refine hK.out _ _ (fun h => by simp at h) (fun _ => ?_)
                                                    clear hK K
                                                    try simp only [Act.put, List.setIfInBounds_toArray, List.set_cons_zero, List.set_cons_succ]
                                                    refine Tail.wpAnyT_ready (rs := [12]) (by kernel_rfl) (by simp) ?_
                                                    refine Tail.AllT.cons (Tail.ns (Tail.ns (Tail.ns (Tail.ns (Tail.ns (Tail.ns (Tail.ns (Tail.ns (Tail.ns (Tail.ns (Tail.ns (Tail.ns Tail.n0)))))))))))) (fun K hK => ?_) ?_
                                                    · go_simp
                                                      refine hK.out _ _ (fun h => by simp at h) (fun _ => ?_)
                                                      clear hK K
                                                      try simp only [Act.put, List.setIfInBounds_toArray, List.set_cons_zero, List.set_cons_succ]
                                                      refine Tail.wpAnyT_ready (rs := [13]) (by kernel_rfl) (by simp) ?_
                                                      refine Tail.AllT.cons (Tail.ns (Tail.ns (Tail.ns (Tail.ns (Tail.ns (Tail.ns (Tail.ns (Tail.ns (Tail.ns (Tail.ns (Tail.ns (Tail.ns (Tail.ns Tail.n0))))))))))))) (fun K hK => ?_) ?_
                                                      · have q0 : X18.cell? ⟨bp, 1, none⟩ = some v1 := HS.out.two.2
                                                        have q1 : X18.frozen? ⟨bp, 1, none⟩ = false := HS.out.frozen 1
                                                        go_simp
                                                        replace HS := Lib.hid (HS.out.set1 (.slice (some ⟨g1, 0, none⟩) (n1 + 1) c1))
                                                        clear q0 q1
                                                        generalize X18.setCell ⟨bp, 1, none⟩ (.slice (some ⟨g1, 0, none⟩) (n1 + 1) c1) = X20 at *
                                                        refine hK.out _ _ (fun h => by simp at h) (fun _ => ?_)
                                                        clear hK K
                                                        try simp only [Act.put, List.setIfInBounds_toArray, List.set_cons_zero, List.set_cons_succ]
                                                        refine Tail.wpAnyT_done (by kernel_rfl) ?_ _
                                                        go_wp2_with fail
                                                        go_roundw
                                                        case rel => exact ⟨i2 + 1, n0 + 1, n1 + 1, _, _, _, _, rfl, by omega, by omega, HC2, by omega, by omega, HS⟩
                                                        case measure => simp only [intOf]; omega
                                                      exact Tail.AllT.nil
                                                    exact Tail.AllT.nil
                                                  exact Tail.AllT.nil
                                                exact Tail.AllT.nil
                                              exact Tail.AllT.nil
                                            exact Tail.AllT.nil
                                          exact Tail.AllT.nil
                                        · have hlh2 : (hi.toNat : Int) < (t[i].toNat : Int) := by omega
                                          clear hlh hcl2 HP1 HP2
                                          go_wp2_with fail
                                          go_ret2
                                          exact ⟨_, _, rfl, fun h => by simp at h, HS2.out.bel⟩
                            · as_aux_lemma =>
                                have hik' : i = k := by omega
                                subst hik'
                                have l1 : ((i : Int) + 1) ≤ (t.size : Int) := by omega
                                have l0 : (0 : Int) ≤ (i : Int) := by omega
                                have HL := Lib.hid (hL.out.tail (i + 1) (clean_step hkt hcl.out (by rw [hg93.out]; decide)))
                                clear hL hcl hg93 HG91
                                go_wp2_with fail
                                go_meet
                                case rel => exact ⟨t.extract (i + 1) t.size, v0, v1, rfl, HL, by rw [ByteArray.size_extract]; omega, HS.out.blk, own_one HS.out.r0, own_one HS.out.r1, HS.out.out, HS.out.bel⟩
                      · rw [decide_eq_false h91] at b1
                        clear h91
                        go_wp2_with fail
                        go_ret2
                        exact ⟨_, _, rfl, fun h => by simp at h, hB2⟩
              case rest =>
                clear hL hblk hO2 hB2 HPl
                obtain ⟨t2, v0, v1, rfl, hL2, hlt, hblk, h0c, h1c, hO2, hB2⟩ := hcut
                have HS := Lib.hid (St.start hblk hO2 hOb hB2 hbB)
                clear hblk hO2 hB2
                go_step
                go_step
                go_cut [5] from 124 to 170 (fun sv wd => ∃ (t3 : ByteArray) (a b : Int), sv = .string t3 ∧ Hid (Left E t3) ∧ t3.size ≤ t2.size ∧ Hid (St w w.heap.size bp u4 n xs #[v0, v1, .int .i64 a, .int .i64 b] (.slice none 0 0) 0 [] (.slice none 0 0) 0 [] wd))
                case first =>
                  as_aux_lemma =>
                    have HB43 := fun w => Lib.hid (begins_any t2 ⟨#[43]⟩ w (by decide))
                    have HB42 := fun w => Lib.hid (begins_any t2 ⟨#[42]⟩ w (by decide))
                    have c2 : wc.cell? ⟨bp, 2, none⟩ = some (.int .i64 1) := (HS.out.cell 2).trans rfl
                    have c3 : wc.cell? ⟨bp, 3, none⟩ = some (.int .i64 1) := (HS.out.cell 3).trans rfl
                    have f2 : wc.frozen? ⟨bp, 2, none⟩ = false := HS.out.frozen 2
                    have f3 : wc.frozen? ⟨bp, 3, none⟩ = false := HS.out.frozen 3
                    have hone : ∀ c r, t2.data.toList = c :: r → 1 ≤ t2.size := fun c r h => by
                      have : t2.data.toList.length = t2.size := by simp
                      rw [h] at this
                      simp at this
                      omega
                    have HOne := Lib.hid hone
                    clear hone
                    go_upto_if 124 with (go_at_call 31; refine (HB43 _).out.mono ?_; rintro e w' ⟨rfl, rfl⟩)
                    cases hb : beg t2 ⟨#[43]⟩ with
                    | true =>
                      as_aux_lemma =>
                        obtain ⟨r, hr⟩ := beg_one hb
                        have k0 := HOne.out _ _ hr
                        have k1 : (1 : Int) ≤ (t2.size : Int) := by omega
                        have HL := Lib.hid (hL2.out.tail 1 (by rw [hr]; simp))
                        clear hb hr HB43 HB42
                        go_wp2_with fail
                        go_region
                        all_goals (
                          go_wp2_with fail
                          go_meet
                          case rel => exact ⟨_, 1, 1000, rfl, HL, by rw [ByteArray.size_extract]; omega, Lib.hid (HS.out.set 3 (.int .i64 1000)).drew⟩)
                    | false =>
                      clear hb HB43
                      go_wp2_with fail
                      refine (HB42 _).out.mono ?_
                      rintro e w' ⟨rfl, rfl⟩
                      cases hb : beg t2 ⟨#[42]⟩ with
                      | true =>
                        obtain ⟨r, hr⟩ := beg_one hb
                        have k0 := HOne.out _ _ hr
                        have k1 : (1 : Int) ≤ (t2.size : Int) := by omega
                        have HL := Lib.hid (hL2.out.tail 1 (by rw [hr]; simp))
                        clear hb hr HB42
                        go_wp2_with fail
                        go_region
                        all_goals (
                          go_wp2_with fail
                          go_meet
                          case rel => exact ⟨_, 0, 1000, rfl, HL, by rw [ByteArray.size_extract]; omega, Lib.hid ((HS.out.set 2 (.int .i64 0)).set 3 (.int .i64 1000)).drew⟩)
                      | false =>
                        clear hb HB42 HOne
                        go_upto_region 33 with fail
                        go_cut [137] from 138 to 160 (fun bv we => ∃ q : Bool, bv = .bool q ∧ Hid (q = true → ∃ h3 : 3 ≤ t2.size, t2.data.toList[0]? = some 123 ∧ (49 : Int) ≤ (t2[1].toNat : Int) ∧ (t2[1].toNat : Int) ≤ 57 ∧ t2.data.toList[2]? = some 125) ∧ wc = we)
                        case first =>
                          as_aux_lemma =>
                            by_cases h3 : 3 ≤ t2.size
                            · have k3 : (3 : Int) ≤ (t2.size : Int) := by omega
                              have b0 := byte_beq t2 0 (by omega) 123 123 rfl
                              have b2 := byte_beq t2 2 (by omega) 125 125 rfl
                              by_cases e0 : t2.data.toList[0]? = some 123
                              · rw [decide_eq_true e0] at b0
                                have HE0 := Lib.hid e0
                                clear e0
                                by_cases e1 : (49 : Int) ≤ (t2[1].toNat : Int)
                                · by_cases e2 : (t2[1].toNat : Int) ≤ 57
                                  · by_cases e3 : t2.data.toList[2]? = some 125
                                    · rw [decide_eq_true e3] at b2
                                      have HE3 := Lib.hid e3
                                      clear e3
                                      go_wp2_with fail
                                      go_meet
                                      case rel => exact ⟨true, rfl, Lib.hid (fun _ => ⟨h3, HE0.out, e1, e2, HE3.out⟩), rfl⟩
                                    · rw [decide_eq_false e3] at b2
                                      clear e3
                                      go_wp2_with fail
                                      go_meet
                                      case rel => exact ⟨false, rfl, Lib.hid (fun h => by cases h), rfl⟩
                                  · have e2' : (57 : Int) < (t2[1].toNat : Int) := by omega
                                    clear e2
                                    go_wp2_with fail
                                    go_meet
                                    case rel => exact ⟨false, rfl, Lib.hid (fun h => by cases h), rfl⟩
                                · have e1' : (t2[1].toNat : Int) < 49 := by omega
                                  clear e1
                                  go_wp2_with fail
                                  go_meet
                                  case rel => exact ⟨false, rfl, Lib.hid (fun h => by cases h), rfl⟩
                              · rw [decide_eq_false e0] at b0
                                clear e0
                                go_wp2_with fail
                                go_meet
                                case rel => exact ⟨false, rfl, Lib.hid (fun h => by cases h), rfl⟩
                            · have k3 : (t2.size : Int) < 3 := by omega
                              clear h3
                              go_wp2_with fail
                              go_meet
                              case rel => exact ⟨false, rfl, Lib.hid (fun h => by cases h), rfl⟩
                        case rest =>
                          obtain ⟨q, rfl, hq, rfl⟩ := hcut
                          cases q with
                          | false =>
                            clear hq
                            go_wp2_with fail
                            go_meet
                            case rel => exact ⟨t2, 1, 1, rfl, hL2, Nat.le_refl _, HS⟩
                          | true =>
                            obtain ⟨h3, e0, e1, e2, e3⟩ := hq.out rfl
                            have HL := Lib.hid (hL2.out.tail 3 (clean_step (i := 2) (by omega) (clean_step (i := 1) (by omega) (clean_step (i := 0) (by omega) (by simp) (by rw [e0]; decide)) (at_ne (i := 1) (by omega) (fun e => by rw [e] at e1; revert e1; decide))) (by rw [e3]; decide)))
                            have k3 : (3 : Int) ≤ (t2.size : Int) := by omega
                            clear hq e0 e3
                            go_upto_region 35 with fail
                            have HS3 : Hid (St w w.heap.size bp u4 n xs #[v0, v1, .int .i64 ((t2[1].toNat : Int) - 48), .int .i64 1] (.slice none 0 0) 0 [] (.slice none 0 0) 0 [] (wc.setCell ⟨bp, 2, none⟩ (.int .i64 ((t2[1].toNat : Int) - 48)))) := Lib.hid (HS.out.set 2 (.int .i64 ((t2[1].toNat : Int) - 48)))
                            generalize (t2[1].toNat : Int) - 48 = d at *
                            clear c2 c3 f2 f3 HS
                            generalize wc.setCell ⟨bp, 2, none⟩ (.int .i64 d) = X at *
                            have c2 : X.cell? ⟨bp, 2, none⟩ = some (.int .i64 d) := (HS3.out.cell 2).trans rfl
                            have c3 : X.cell? ⟨bp, 3, none⟩ = some (.int .i64 1) := (HS3.out.cell 3).trans rfl
                            have f3 : X.frozen? ⟨bp, 3, none⟩ = false := HS3.out.frozen 3
                            go_region
                            all_goals (
                              go_wp2_with fail
                              go_meet
                              case rel => exact ⟨_, d, d, rfl, HL, by rw [ByteArray.size_extract]; omega, Lib.hid (HS3.out.set 3 (.int .i64 d)).drew⟩)
                case rest =>
                  as_aux_lemma =>
                    clear HS hL2
                    obtain ⟨t3, a, b, rfl, hL3, hlt3, HS⟩ := hcut
                    have c0 : wc.cell? ⟨bp, 0, none⟩ = some v0 := (HS.out.cell 0).trans rfl
                    have c1 : wc.cell? ⟨bp, 1, none⟩ = some v1 := (HS.out.cell 1).trans rfl
                    have c2 : wc.cell? ⟨bp, 2, none⟩ = some (.int .i64 a) := (HS.out.cell 2).trans rfl
                    have c3 : wc.cell? ⟨bp, 3, none⟩ = some (.int .i64 b) := (HS.out.cell 3).trans rfl
                    have hbs : w.heap.size ≤ wc.heap.size := HS.out.bel.size
                    have hm1 : n + 1 ≤ maxLen := by unfold maxLen; omega
                    go_wp2_with (at_builtin; refine wpList_append_own _ rfl (.tmp 171) (.tmp 173) 60 rfl w.heap.size 75 i75 _ 4 64 Try.underlying60 hi75 hz0 hz1 hz2 rfl (by decide) _ n xs rfl (HS.out.out.alloc _) ⟨wc.heap.size, 0, none⟩ 1 1 [v0, v1, .int .i64 a, .int .i64 b] rfl rfl (World.news_of_block (heap_new _ _ _ rfl)) (one_four h0c h1c) hm1 (by omega) (by rw [World.size_alloc]; omega) ?_; intro v3 w3 hown3 hgrow3 _)
                    go_roundw
                    case rel => exact ⟨t3, n + 1, _, rfl, hL3, by omega, hown3, Below.grown (HS.out.bel.alloc hbs _) hgrow3 (by rw [World.size_alloc]; omega) (fun q e => (HS.out.out.lt q e).1)⟩
                    case measure => simp only [strSize]; omega

end Go.Proofs.Ytjcjdkgoegfhkaa.Joi
