/- The walk of IsRoute at a route without a method: where both answers are yes, the pattern begins with a slash and holds no wildcard. Conditions: at most 2147483647 bytes; and what Known answers. -/
import Derived.Test.YtjcjdkgoegfhkaaJoiG
namespace Go.Proofs.Ytjcjdkgoegfhkaa.Joi
open Go.RowKit Seg

/-- What Known comes to: a yes only for an expression without slashes. -/
def KnownPost (x : ByteArray) (w : World) (e : Ending) (w' : World) : Prop := ∃ v r, e = .returned (.tuple #[v, .bool r]) ∧ (r = true → 47 ∉ x.data.toList) ∧ Below w.heap.size w w'

def RouteOk (s : ByteArray) : Prop := (∃ t, s.data.toList = 47 :: t) ∧ sxL wc s.data.toList = none
def RoutePost (s : ByteArray) (w : World) (e : Ending) (w' : World) : Prop := ∃ r1 r2, e = .returned (.tuple #[.bool r1, .bool r2]) ∧ (r1 = true → r2 = true → RouteOk s) ∧ Below w.heap.size w w'

theorem beg_one {s : ByteArray} {c : UInt8} (h : beg s ⟨#[c]⟩ = true) : ∃ t, s.data.toList = c :: t := by
  unfold beg at h
  rw [List.isPrefixOf_iff_prefix] at h
  obtain ⟨t, ht⟩ := h
  exact ⟨t, ht.symm⟩

theorem hasNot_none {s : ByteArray} (h : hasNot s ⟨#[47, 42, 47]⟩ s.size) : sxL wc s.data.toList = none := by
  have hl : s.data.toList.length = s.size := by simp
  have key : ∀ (n i : Nat), i + n = s.size → sxL wc (s.data.toList.drop i) = none := by
    intro n
    induction n with
    | zero =>
      intro i hi
      rw [List.drop_eq_nil_of_le (by omega)]
      rfl
    | succ n ih =>
      intro i hi
      have h4 : i < s.data.toList.length := by omega
      have hb := h i (by omega)
      unfold beg at hb
      rw [ext_list, List.take_of_length_le (by simp), List.drop_eq_getElem_cons h4] at hb
      rw [List.drop_eq_getElem_cons h4, sxL, show wc.isPrefixOf _ = false from hb, ih (i + 1) (by omega)]
      rfl
  exact key s.size 0 (by omega)

theorem expr_small {s : ByteArray} {p : Part} (h : segOf s = some p) : p.key.size ≤ s.size + 2 ∧ p.expr.size ≤ s.size + 2 := by
  have ha : ∀ x : ByteArray, (anch x).size ≤ x.size + 2 := fun x => by
    unfold anch
    split
    · omega
    · rw [ByteArray.size_append, ByteArray.size_append]
      have h1 : (front x).size ≤ 1 := by unfold front; split <;> decide
      have h2 : (back x).size ≤ 1 := by unfold back; split <;> decide
      omega
  have hp : ∀ o e, (Seg.partAt s o e).key.size ≤ s.size + 2 ∧ (Seg.partAt s o e).expr.size ≤ s.size + 2 := fun o e => by
    unfold Seg.partAt
    cases ix (s.extract (o + 1) e) 58 with
    | none => exact ⟨by simp only [ByteArray.size_extract]; omega, by show (⟨#[]⟩ : ByteArray).size ≤ _; exact Nat.zero_le _⟩
    | some c =>
      refine ⟨by simp only [ByteArray.size_extract]; omega, ?_⟩
      have := ha ((s.extract (o + 1) e).extract (c + 1) (s.extract (o + 1) e).size)
      simp only [ByteArray.size_extract] at this ⊢
      omega
  unfold segOf at h
  have h0 : (⟨#[]⟩ : ByteArray).size = 0 := rfl
  have h42 : (⟨#[42]⟩ : ByteArray).size = 1 := rfl
  cases h1 : ix s 123 with
  | none =>
    rw [h1] at h
    cases h2 : ix s 42 with
    | none => rw [h2] at h; simp at h; subst h; dsimp only; exact ⟨by omega, by omega⟩
    | some t =>
      rw [h2] at h
      dsimp only at h
      split at h
      · simp at h; subst h; dsimp only; exact ⟨by omega, by omega⟩
      · simp at h
  | some o =>
    have key : ∀ q, (shutAt s o).map (Seg.partAt s o) = some q → q.key.size ≤ s.size + 2 ∧ q.expr.size ≤ s.size + 2 := fun q hq => by
      cases he : shutAt s o with
      | none => rw [he] at hq; simp at hq
      | some e => rw [he] at hq; simp at hq; subst hq; exact hp o e
    rw [h1] at h
    cases h2 : ix s 42 with
    | none => rw [h2] at h; exact key p h
    | some t =>
      rw [h2] at h
      dsimp only at h
      split at h
      · simp at h
      · exact key p h

theorem parts_small : ∀ (f : Nat) (s : ByteArray) (L : List Part), plist f s = some L → ∀ p ∈ L, p.key.size ≤ s.size + 2 ∧ p.expr.size ≤ s.size + 2
  | 0, s, L, h, _, _ => by simp [plist] at h
  | f + 1, s, L, h, q, hq => by
    rw [plist] at h
    by_cases h0 : s.size = 0
    · rw [if_pos h0] at h; simp at h; subst h; simp at hq
    · rw [if_neg h0] at h
      cases hg : segOf s with
      | none => rw [hg] at h; simp at h
      | some p =>
        rw [hg] at h
        dsimp only at h
        have hp := expr_small hg
        by_cases hk : p.kind = 0
        · rw [if_pos hk] at h; simp at h; subst h; simp at hq; subst hq; exact hp
        · rw [if_neg hk] at h
          cases hl : plist f (s.extract p.til.toNat s.size) with
          | none => rw [hl] at h; simp at h
          | some r =>
            rw [hl] at h
            simp at h
            subst h
            rcases List.mem_append.1 hq with hq | hq
            · split at hq
              · simp at hq; subst hq; exact ⟨Nat.zero_le _, Nat.zero_le _⟩
              · simp at hq
            · rcases List.mem_cons.1 hq with rfl | hq
              · exact hp
              · have := parts_small f _ r hl q hq
                simp only [ByteArray.size_extract] at this
                omega

set_option maxRecDepth 100000 in
set_option maxHeartbeats 4000000 in
theorem isRoute_any (s : ByteArray) (w : World) (hs : s.size ≤ 2147483647) (hK : ∀ (x : ByteArray) (w : World), x.size ≤ 2147483650 → Calls Try.prog 34 #[.string x] w (KnownPost x w)) : Calls Try.prog 14 #[.agg #[.string ⟨#[]⟩, .string s, .int .i64 1]] w (RoutePost s w) := by
  have HK := Lib.hid hK
  clear hK
  have HI1 := fun w => Lib.hid (index_any s 32 32 rfl w (by omega))
  have HI2 := fun w => Lib.hid (index_any s 9 9 rfl w (by omega))
  have HM := fun w => Lib.hid (ismethod_empty w)
  have HG := fun w => Lib.hid (great_empty w)
  have HBg := fun w => Lib.hid (begins_any s ⟨#[47]⟩ w (by decide))
  have HP := fun w => Lib.hid (parts_any s w hs)
  obtain ⟨R, hR⟩ : ∃ R, keysOf s = R := ⟨_, rfl⟩
  have HQ := fun w => Lib.hid (keysOf_any s w hs R hR)
  clear hR
  go_enter Try.func14, Try.ntmps14
  go_wp2_with fail
  refine (HI1 _).out.mono ?_
  rintro e w' ⟨rfl, rfl⟩
  cases h1 : ix s 32 with
  | some k =>
    clear h1
    unfold oi
    have k0 : (0 : Int) ≤ (k : Int) := by omega
    go_wp2_with fail
    go_ret2
    exact ⟨_, _, rfl, fun h => by simp at h, (Below.refl _ _).alloc (Nat.le_refl _) _⟩
  | none =>
    clear h1
    dsimp only [oi]
    go_wp2_with fail
    refine (HI2 _).out.mono ?_
    rintro e w' ⟨rfl, rfl⟩
    cases h1 : ix s 9 with
    | some k =>
      clear h1
      unfold oi
      have k0 : (0 : Int) ≤ (k : Int) := by omega
      go_wp2_with fail
      go_ret2
      exact ⟨_, _, rfl, fun h => by simp at h, (Below.refl _ _).alloc (Nat.le_refl _) _⟩
    | none =>
      clear h1
      dsimp only [oi]
      go_wp2_with fail
      refine (HM _).out.mono ?_
      rintro e w1 ⟨rfl, hB1⟩
      have c0 := hB1.cell (p := ⟨w.heap.size, 0, none⟩) (by simp)
      have c1 := hB1.cell (p := ⟨w.heap.size, 1, none⟩) (by simp)
      simp at c0 c1
      have hB : Below w.heap.size w w1 := ((Below.refl _ w).alloc (Nat.le_refl _) _).trans (hB1.mono (by simp))
      have hlt : w.heap.size < w1.heap.size := by have := hB1.size; simp at this; omega
      clear hB1 HI1 HI2
      go_wp2_with fail
      refine (HG _).out.mono ?_
      rintro e w2 ⟨rfl, hB2⟩
      have d0 := (hB2.cell (p := ⟨w.heap.size, 0, none⟩) hlt).trans c0
      have d1 := (hB2.cell (p := ⟨w.heap.size, 1, none⟩) hlt).trans c1
      replace hB := hB.trans (hB2.mono (Nat.le_of_lt hlt))
      replace hlt := Nat.lt_of_lt_of_le hlt hB2.size
      clear c0 c1 hB2
      go_wp2_with fail
      refine (HM _).out.mono ?_
      rintro e w3 ⟨rfl, hB3⟩
      have c0 := (hB3.cell (p := ⟨w.heap.size, 0, none⟩) hlt).trans d0
      have c1 := (hB3.cell (p := ⟨w.heap.size, 1, none⟩) hlt).trans d1
      replace hB := hB.trans (hB3.mono (Nat.le_of_lt hlt))
      replace hlt := Nat.lt_of_lt_of_le hlt hB3.size
      clear d0 d1 hB3 HG HM
      go_wp2_with fail
      go_loop [35] (fun i => i = .int .i64 0) (fun _ => 0)
      case atStart => rfl
      case round =>
        subst hrel
        go_wp2_with fail
        refine (HBg _).out.mono ?_
        rintro e w4 ⟨rfl, rfl⟩
        cases hb : beg s ⟨#[47]⟩ with
        | false =>
          clear hb
          go_wp2_with fail
          go_ret2
          exact ⟨_, _, rfl, fun h => by simp at h, hB⟩
        | true =>
          have HS := Lib.hid (beg_one hb)
          clear hb HBg
          go_wp2_with fail
          refine (HP _).out.mono ?_
          cases hL : allParts s with
          | none =>
            rintro e w4 ⟨rfl, hB4⟩
            clear HP HQ hL
            go_wp2_with fail
            go_ret2
            exact ⟨_, _, rfl, fun h => by simp at h, hB.trans (hB4.mono (Nat.le_of_lt hlt))⟩
          | some L =>
            rintro e w4 ⟨v0, v1, rfl, hL0, hB4⟩
            have c1' := (hB4.cell (p := ⟨w.heap.size, 1, none⟩) hlt).trans c1
            replace hB := hB.trans (hB4.mono (Nat.le_of_lt hlt))
            have hL1 := own_low hL0 (Nat.le_of_lt hlt)
            have hLb : ∀ q, v0.ownBlock = some q → w.heap.size < q := fun q e => by have := (hL0.lt q e).1; omega
            replace hlt := Nat.lt_of_lt_of_le hlt hB4.size
            have hsm := Lib.hid (parts_small _ _ _ hL)
            have hcl := Lib.hid (parts_clean _ _ _ hL)
            have hLn : L.length ≤ 4294967294 := by have := plist_len _ _ _ hL; omega
            obtain ⟨a, c, rfl, hsh⟩ := parts_shape hL0
            clear c0 c1 hB4 hL0 HP hL
            go_wp2_with fail
            go_loopw [70] (fun iv wr => ∃ i : Nat, iv = .int .i64 i ∧ i ≤ L.length ∧ Hid (cleanParts (L.take i)) ∧ wr.ownsRow w.heap.size 27 6 (.slice a L.length c) L.length (flat L) ∧ wr.cell? ⟨w.heap.size, 1, none⟩ = some (.string s) ∧ w.heap.size < wr.heap.size ∧ Below w.heap.size w wr) (fun iv _ => L.length - (intOf iv).toNat)
            case atStart => exact ⟨0, rfl, Nat.zero_le _, Lib.hid (fun p hp => by simp at hp), hL1, c1', hlt, hB⟩
            case round =>
              clear hL1 c1' hlt hB
              obtain ⟨i, rfl, hi1, hcp, hP, c1, hlt, hB⟩ := hrel
              by_cases hil : i < L.length
              · obtain ⟨b, rfl, _, _⟩ := hsh i hil
                have q0 := parts_cell hP i hil 0 (by decide) _ rfl
                have q1 := parts_cell hP i hil 1 (by decide) _ rfl
                have q2 := parts_cell hP i hil 2 (by decide) _ rfl
                have q3 := parts_cell hP i hil 3 (by decide) _ rfl
                have q4 := parts_cell hP i hil 4 (by decide) _ rfl
                have q5 := parts_cell hP i hil 5 (by decide) _ rfl
                rw [Nat.add_zero] at q0
                have hsz := hsm.out L[i] (List.getElem_mem hil)
                have hnext := Lib.hid (show sxL wc L[i].key.data.toList = none ∧ (L[i].kind = 1 → 47 ∉ L[i].expr.data.toList) → cleanParts (L.take (i + 1)) from fun hp q hq => by
                  rw [List.take_succ_eq_append_getElem hil] at hq
                  rcases List.mem_append.1 hq with hq | hq
                  · exact hcp.out q hq
                  · simp at hq; subst hq; exact hp)
                generalize hp : L[i] = p at *
                obtain ⟨pk, pkey, px, pt, pf, pto⟩ := p
                dsimp only at hsz hnext
                have k0 : (0 : Int) ≤ (i : Int) := by omega
                have k1 : (i : Int) < (L.length : Int) := by omega
                have hP2 := hP.alloc (.cells #[.int .i64 pk, .string pkey, .string px, .int .u8 pt, .int .i64 pf, .int .i64 pto] 27)
                have hB2 := hB.alloc hB.size (.cells #[.int .i64 pk, .string pkey, .string px, .int .u8 pt, .int .i64 pf, .int .i64 pto] 27)
                have c12 := cell_old (.cells #[.int .i64 pk, .string pkey, .string px, .int .u8 pt, .int .i64 pf, .int .i64 pto] 27) c1
                have hlt2 : w.heap.size < (wr.alloc (.cells #[.int .i64 pk, .string pkey, .string px, .int .u8 pt, .int .i64 pf, .int .i64 pto] 27)).heap.size := by rw [World.size_alloc]; omega
                have HH := fun w => Lib.hid (has_any pkey ⟨#[47, 42, 47]⟩ w (by omega) (by decide))
                have HR := fun w => Lib.hid (broken_any px w)
                have HKx := fun w => Lib.hid (HK.out px w (by omega))
                clear hP hp hsm hcp
                go_wp2_with fail
                refine (HH _).out.mono ?_
                rintro e w5 ⟨r, rfl, hr, rfl⟩
                cases r with
                | true =>
                  clear hr
                  go_wp2_with fail
                  go_ret2
                  exact ⟨_, _, rfl, fun h => by simp at h, hB2⟩
                | false =>
                  have hkey := Lib.hid (hasNot_none (hr rfl))
                  clear hr HH
                  by_cases hk : pk = 1
                  · have t1 : (pk == 1) = true := beq_iff_eq.2 hk
                    have t2 : (pk != 1) = false := by rw [bne, t1]; rfl
                    clear hk
                    go_wp2_with fail
                    refine (HR _).out.mono ?_
                    rintro e w5 ⟨⟨r, rfl⟩, rfl⟩
                    cases r with
                    | true =>
                      go_wp2_with fail
                      go_ret2
                      exact ⟨_, _, rfl, fun h => by simp at h, hB2⟩
                    | false =>
                      go_wp2_with fail
                      refine (HKx _).out.mono ?_
                      rintro e w5 ⟨v, r, rfl, hr, hB5⟩
                      cases r with
                      | false =>
                        go_wp2_with fail
                        go_ret2
                        exact ⟨_, _, rfl, fun h => by simp at h, hB2.trans (hB5.mono hB2.size)⟩
                      | true =>
                        have HN := Lib.hid (hnext.out ⟨hkey.out, fun _ => hr rfl⟩)
                        have hP3 := own_below hP2 hB5
                        have c13 := (hB5.cell (p := ⟨w.heap.size, 1, none⟩) hlt2).trans c12
                        clear hr
                        go_wp2_with fail
                        go_roundw
                        case rel => exact ⟨i + 1, by go_num, by omega, HN, hP3, c13, Nat.lt_of_lt_of_le hlt2 hB5.size, hB2.trans (hB5.mono hB2.size)⟩
                        case measure => simp [intOf]; omega
                  · have t1 : (pk == 1) = false := beq_eq_false_iff_ne.2 hk
                    have t2 : (pk != 1) = true := by rw [bne, t1]; rfl
                    have HN := Lib.hid (hnext.out ⟨hkey.out, fun h => absurd h hk⟩)
                    clear hk
                    go_wp2_with fail
                    go_roundw
                    case rel => exact ⟨i + 1, by go_num, by omega, HN, hP2, c12, hlt2, hB2⟩
                    case measure => simp [intOf]; omega
              · obtain rfl : i = L.length := by omega
                have HN := Lib.hid (show RouteOk s from ⟨HS.out, hcl.out (by have := hcp.out; rwa [List.take_length] at this)⟩)
                clear hP hcp hsm hcl HK
                go_wp2_with fail
                refine (HQ _).out.mono ?_
                cases R with
                | none =>
                  rintro e w5 ⟨rfl, hB5⟩
                  go_wp2_with fail
                  go_ret2
                  exact ⟨_, _, rfl, fun h => by simp at h, hB.trans (hB5.mono hB.size)⟩
                | some K =>
                  rintro e w5 ⟨v, rfl, _, hB5⟩
                  go_wp2_with fail
                  go_ret2
                  exact ⟨_, _, rfl, fun _ _ => HN.out, hB.trans (hB5.mono hB.size)⟩

end Go.Proofs.Ytjcjdkgoegfhkaa.Joi
