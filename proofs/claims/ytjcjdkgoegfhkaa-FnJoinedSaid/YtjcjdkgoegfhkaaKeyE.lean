/- The walk of spec.KeysOf: the keys of a pattern, or false where it is refused or a key stands twice. Conditions: at most 2147483647 bytes. -/
import Derived.Test.YtjcjdkgoegfhkaaKeyD
namespace Go.Proofs.Ytjcjdkgoegfhkaa.Seg
open Go.RowKit

theorem plist_len : ∀ (f : Nat) (s : ByteArray) (L : List Part), plist f s = some L → L.length ≤ 2 * s.size
  | 0, s, L, h => by simp [plist] at h
  | f + 1, s, L, h => by
    rw [plist] at h
    by_cases h0 : s.size = 0
    · rw [if_pos h0] at h; simp at h; subst h; simp
    · rw [if_neg h0] at h
      cases hg : segOf s with
      | none => rw [hg] at h; simp at h
      | some p =>
        rw [hg] at h
        dsimp only at h
        rcases seg_places hg with ⟨hk, _, _⟩ | ⟨hk, hp1, hp2, hp3⟩
        · rw [if_pos hk] at h; simp at h; subst h; simp; omega
        · rw [if_neg hk] at h
          cases hl : plist f (s.extract p.til.toNat s.size) with
          | none => rw [hl] at h; simp at h
          | some r =>
            rw [hl] at h
            simp at h
            subst h
            have := plist_len f _ r hl
            simp at this
            rw [List.length_append, List.length_cons]
            split <;> simp <;> omega

theorem flat_get : ∀ (L : List Part) (i : Nat) (hi : i < L.length) (k : Nat), k < 6 → (flat L)[i * 6 + k]? = (L[i].cells)[k]?
  | [], i, hi, k, hk => by simp at hi
  | p :: r, 0, hi, k, hk => by
    rw [flat, Nat.zero_mul, Nat.zero_add, List.getElem?_append_left (by simpa [Part.cells] using hk)]; rfl
  | p :: r, i + 1, hi, k, hk => by
    have hl : p.cells.length = 6 := rfl
    have hi2 : i < r.length := by simpa using hi
    rw [flat, List.getElem?_append_right (by omega), hl, show (i + 1) * 6 + k - 6 = i * 6 + k by omega, flat_get r i hi2 k hk]; rfl

theorem parts_shape {w : World} {base : Nat} {v : Value} {L : List Part} (h : w.ownsRow base 27 6 v L.length (flat L)) : ∃ a c, v = .slice a L.length c ∧ (∀ j, (hj : j < L.length) → ∃ b, a = some ⟨b, 0, none⟩ ∧ v.ownBlock = some b ∧ b < w.heap.size) := by
  rcases h.2 with ⟨e, e0⟩ | ⟨g, cap, cur, rfl, _⟩
  · exact ⟨none, 0, by rw [e, e0], fun j hj => by omega⟩
  · exact ⟨_, _, rfl, fun j hj => ⟨g, rfl, rfl, (h.lt g rfl).2⟩⟩

theorem parts_cell {w : World} {base : Nat} {b : Nat} {n c : Nat} {L : List Part} (h : w.ownsRow base 27 6 (.slice (some ⟨b, 0, none⟩) n c) L.length (flat L)) (i : Nat) (hi : i < L.length) (k : Nat) (hk : k < 6) (v : Value) (hv : (L[i].cells)[k]? = some v) : w.cell? ⟨b, i * 6 + k, none⟩ = some v := by
  have := h.cells (g := b) rfl (i * 6 + k) v (by rw [flat_get L i hi k hk]; exact hv)
  rw [Go.WideShapes.add_plain] at this
  simpa using this

def KeysOfPost (R : Option (List ByteArray)) (w : World) (e : Ending) (w' : World) : Prop := match R with
  | some K => KOkPost K w e w'
  | none => KNoPost w e w'

set_option maxRecDepth 100000 in
set_option maxHeartbeats 8000000 in
theorem keysOf_any (s : ByteArray) (w : World) (hs : s.size ≤ 2147483647) (R : Option (List ByteArray)) (hR : keysOf s = R) : Calls Try.prog 11 #[.string s] w (KeysOfPost R w) := by
  obtain ⟨i0, hi, hz0, hz1, hz2⟩ := info_parts info9
  have HC := Lib.hid (parts_any s w hs)
  cases hL : allParts s with
  | none =>
    obtain rfl : R = none := by rw [← hR, keysOf_eq, hL]; rfl
    rw [hL] at HC
    clear hL hR
    go_enter Try.func11, Try.ntmps11
    go_wp2_with fail
    refine HC.out.mono ?_
    rintro e w1 ⟨rfl, hB1⟩
    go_wp2_with fail
    go_ret2
    exact ⟨rfl, hB1⟩
  | some L =>
    have hstart := Lib.hid (show keyFold (L.drop 0) [] = R by rw [← hR, keysOf_eq, hL]; rfl)
    have hLn : L.length ≤ 4294967294 := by
      have := plist_len _ _ _ hL
      omega
    rw [hL] at HC
    clear hL hR
    go_enter Try.func11, Try.ntmps11
    go_wp2_with fail
    refine HC.out.mono ?_
    rintro e w1 ⟨v0, v1, rfl, hL0, hB1⟩
    obtain ⟨a, c, rfl, hsh⟩ := parts_shape hL0
    have HL0 := Lib.hid (hL0.alloc (.cells #[] 9))
    have HX0 := Lib.hid (show (w1.alloc (.cells #[] 9)).ownsRow w.heap.size 9 1 (.slice (some ⟨w1.heap.size, 0, none⟩) 0 0) 0 [] from World.ownsRow_made w1 #[] 0 hB1.size (by decide) rfl)
    clear hL0
    go_wp2_with fail
    go_loopw [7, 23] (fun kv iv wr => ∃ (i : Nat) (K : List ByteArray), iv = .int .i64 i ∧ i ≤ L.length ∧ K.length ≤ i ∧ Hid (keyFold (L.drop i) K = R) ∧ wr.ownsRow w.heap.size 9 1 kv K.length (K.map Value.string) ∧ wr.ownsRow w.heap.size 27 6 (.slice a L.length c) L.length (flat L) ∧ Below w.heap.size w wr) (fun _ iv _ => L.length - (intOf iv).toNat)
    case atStart => exact ⟨0, [], rfl, Nat.zero_le _, Nat.le_refl _, hstart, HX0.out, HL0.out, hB1.alloc hB1.size _⟩
    case round =>
      obtain ⟨i, K, rfl, hi1, hKi, hrun, hX, hP, hB⟩ := hrel
      by_cases hlt : i < L.length
      · obtain ⟨b, rfl, _, _⟩ := hsh i hlt
        have hdrop : L.drop i = L[i] :: L.drop (i + 1) := List.drop_eq_getElem_cons hlt
        have c0 := parts_cell hP i hlt 0 (by decide) _ rfl
        have c1 := parts_cell hP i hlt 1 (by decide) _ rfl
        have c2 := parts_cell hP i hlt 2 (by decide) _ rfl
        have c3 := parts_cell hP i hlt 3 (by decide) _ rfl
        have c4 := parts_cell hP i hlt 4 (by decide) _ rfl
        have c5 := parts_cell hP i hlt 5 (by decide) _ rfl
        generalize hp : L[i] = p at *
        obtain ⟨pk, pkey, px, pt, pf, pto⟩ := p
        rw [Nat.add_zero] at c0
        have k0 : (0 : Int) ≤ (i : Int) := by omega
        have k1 : (i : Int) < (L.length : Int) := by omega
        by_cases hk : pk = 0
        · have t1 : (pk == 0) = true := beq_iff_eq.2 hk
          have HR := Lib.hid (show keyFold (L.drop (i + 1)) K = R by rw [← hrun.out, hdrop, keyFold, if_pos hk])
          have hX2 := hX.alloc (.cells #[.int .i64 pk, .string pkey, .string px, .int .u8 pt, .int .i64 pf, .int .i64 pto] 27)
          have hP2 := hP.alloc (.cells #[.int .i64 pk, .string pkey, .string px, .int .u8 pt, .int .i64 pf, .int .i64 pto] 27)
          have hB2 := hB.alloc hB.size (.cells #[.int .i64 pk, .string pkey, .string px, .int .u8 pt, .int .i64 pf, .int .i64 pto] 27)
          clear hX hP hB hrun hk hp
          go_wp2_with fail
          go_roundw
          case rel => exact ⟨i + 1, K, by go_num, by omega, by omega, HR, hX2, hP2, hB2⟩
          case measure => simp [intOf]; omega
        · have t1 : (pk == 0) = false := beq_eq_false_iff_ne.2 hk
          have HR := Lib.hid (show (if hasKey K pkey then none else keyFold (L.drop (i + 1)) (K ++ [pkey])) = R by rw [← hrun.out, hdrop, keyFold, if_neg hk])
          clear hrun hk hp hdrop
          obtain ⟨a1, c1', rfl, hrd⟩ := own_shape hX
          have hX2 := hX.alloc (.cells #[.int .i64 pk, .string pkey, .string px, .int .u8 pt, .int .i64 pf, .int .i64 pto] 27)
          have hP2 := hP.alloc (.cells #[.int .i64 pk, .string pkey, .string px, .int .u8 pt, .int .i64 pf, .int .i64 pto] 27)
          have hB2 := hB.alloc hB.size (.cells #[.int .i64 pk, .string pkey, .string px, .int .u8 pt, .int .i64 pf, .int .i64 pto] 27)
          have hrd2 : Rd (wr.alloc (.cells #[.int .i64 pk, .string pkey, .string px, .int .u8 pt, .int .i64 pf, .int .i64 pto] 27)) a1 K := fun j hj => by
            obtain ⟨b2, o2, e2, h2, h3⟩ := hrd j hj
            exact ⟨b2, o2, e2, by rw [World.size_alloc]; omega, cell_old _ h3⟩
          clear hrd
          go_wp2_with fail
          go_loop [32] (fun jv => ∃ j : Nat, j ≤ K.length ∧ jv = .int .i64 j ∧ Hid (∀ q, (hq : q < K.length) → q < j → (K[q]).toList ≠ pkey.toList)) (fun jv => K.length - (intOf jv).toNat)
          case atStart => exact ⟨0, Nat.zero_le _, rfl, Lib.hid (fun q hq h => by omega)⟩
          case round =>
            obtain ⟨j, hjk, rfl, hno⟩ := hrel
            by_cases hjl : j < K.length
            · obtain ⟨b2, o2, rfl, hb2, hc2⟩ := hrd2 j hjl
              have j1 : (j : Int) < (K.length : Int) := by omega
              have j0 : (0 : Int) ≤ (j : Int) := by omega
              by_cases he : (K[j]).toList = pkey.toList
              · have t2 : ((K[j]).toList == pkey.toList) = true := by rw [he]; simp
                have HR2 := Lib.hid (show R = none by rw [← HR.out, if_pos (hasKey_yes j hjl he)])
                clear he hno hrd2
                go_wp2_with fail
                go_ret2
                rw [HR2.out]
                exact ⟨rfl, hB2⟩
              · have t2 : ((K[j]).toList == pkey.toList) = false := by simpa using he
                have HN := Lib.hid (show ∀ q, (hq : q < K.length) → q < j + 1 → (K[q]).toList ≠ pkey.toList from fun q hq h => by
                  by_cases e : q = j
                  · subst e; exact he
                  · exact hno.out q hq (by omega))
                clear he hno hrd2
                go_wp2_with fail
                go_round
                case rel => exact ⟨j + 1, by omega, by go_num, HN⟩
                case measure => simp [intOf]; omega
            · obtain rfl : j = K.length := by omega
              have HR2 := Lib.hid (show keyFold (L.drop (i + 1)) (K ++ [pkey]) = R by
                rw [← HR.out, hasKey_no (fun q hq => hno.out q hq hq)]; rfl)
              have hm1 : K.length + 1 ≤ maxLen := by unfold maxLen; omega
              have hbw := hB2.size
              clear hrd2 hno
              go_wp2_with (first | (at_builtin; refine wpList_append_own _ rfl _ _ 22 rfl w.heap.size 9 i0 (.string ⟨#[]⟩) 1 16 Try.underlying22 hi hz0 hz1 hz2 rfl (by decide) _ _ _ rfl (hX2.alloc _) ⟨wr.heap.size + 1, 0, none⟩ 1 1 [.string pkey] rfl rfl (by rw [← World.size_alloc]; exact cell_one_new _ _ _) (by simp [Value.oneCell']) hm1 (by omega) (by rw [World.size_alloc]; omega) ?_; intro v' w2 hown2 hgrow2 _))
              have hsz2 := World.size_alloc wr (.cells #[.int .i64 pk, .string pkey, .string px, .int .u8 pt, .int .i64 pf, .int .i64 pto] 27)
              have hB3 : Below w.heap.size w w2 := Below.grown (hB2.alloc hbw _) hgrow2 (by rw [World.size_alloc]; omega) (fun q e => (hX2.lt q e).1)
              have hX3 : w2.ownsRow w.heap.size 9 1 v' (K ++ [pkey]).length ((K ++ [pkey]).map Value.string) := by simpa using hown2
              have hP3 := (hP2.alloc _).kept hgrow2 (own_types hP2 hX2 (by decide))
              clear hown2 hgrow2 hX2 hP2
              go_wp2_with fail
              go_roundw
              case rel => exact ⟨i + 1, K ++ [pkey], by go_num, by omega, by rw [List.length_append]; simp only [List.length_cons, List.length_nil]; omega, HR2, hX3, hP3, hB3⟩
              case measure => simp [intOf]; omega
      · obtain rfl : i = L.length := by omega
        have HR := Lib.hid (show R = some K by rw [← hrun.out, List.drop_length]; rfl)
        clear hrun hP
        go_wp2_with fail
        go_ret2
        rw [HR.out]
        exact ⟨_, rfl, hX, hB⟩

end Go.Proofs.Ytjcjdkgoegfhkaa.Seg
