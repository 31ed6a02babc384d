/- The plain law of a pattern that is a route: where no key holds the wildcard and no expression a slash, the pattern holds no wildcard. No program in sight. -/
import Derived.Test.YtjcjdkgoegfhkaaJoiF
namespace Go.Proofs.Ytjcjdkgoegfhkaa.Joi
open Seg

theorem no42 : ∀ l : List UInt8, 42 ∉ l → sxL wc l = none
  | [], _ => rfl
  | [c], _ => by rw [sxL]; simp [wc, List.isPrefixOf, sxL]
  | c :: d :: l, h => by
    have hd : d ≠ 42 := fun e => h (by simp [e])
    have hp : wc.isPrefixOf (c :: d :: l) = false := by simp [wc, List.isPrefixOf, Ne.symm hd]
    rw [sxL, hp, no42 (d :: l) (fun q => h (List.mem_cons_of_mem _ q))]
    rfl
theorem no47 : ∀ l : List UInt8, 47 ∉ l → sxL wc l = none
  | [], _ => rfl
  | c :: l, h => by
    have hc : c ≠ 47 := fun e => h (by simp [e])
    have hp : wc.isPrefixOf (c :: l) = false := by simp [wc, List.isPrefixOf, Ne.symm hc]
    rw [sxL, hp, no47 l (fun q => h (List.mem_cons_of_mem _ q))]
    rfl

/-- A byte that is neither a slash nor a star keeps two texts apart. -/
theorem apart (b : List UInt8) (hb : sxL wc b = none) (c : UInt8) (h1 : c ≠ 47) (h2 : c ≠ 42) : ∀ a : List UInt8, sxL wc a = none → sxL wc (a ++ c :: b) = none
  | [], _ => by
    have hp : wc.isPrefixOf (c :: b) = false := by simp [wc, List.isPrefixOf, Ne.symm h1]
    rw [List.nil_append, sxL, hp, hb]; rfl
  | d :: a, ha => by
    have ha' : sxL wc a = none := by
      rw [sxL] at ha
      split at ha
      · cases ha
      · cases hq : sxL wc a with
        | none => rfl
        | some n => rw [hq] at ha; simp at ha
    have hnp : wc.isPrefixOf (d :: a) = false := by
      rw [sxL] at ha
      split at ha
      · cases ha
      · rename_i q; exact Bool.eq_false_iff.2 q
    have hp : wc.isPrefixOf (d :: (a ++ c :: b)) = false := by
      cases a with
      | nil => simp [wc, List.isPrefixOf, Ne.symm h2]
      | cons e a =>
        cases a with
        | nil => simp [wc, List.isPrefixOf, Ne.symm h1]
        | cons g a => simpa [wc, List.isPrefixOf] using hnp
    rw [List.cons_append, sxL, hp, apart b hb c h1 h2 a ha']
    rfl

/-- A star at the end makes no wildcard. -/
theorem starEnd (a : List UInt8) (h : 42 ∉ a) : sxL wc (a ++ [42]) = none := by
  induction a with
  | nil => rw [List.nil_append, sxL]; simp [wc, List.isPrefixOf, sxL]
  | cons d a ih =>
    have hp : wc.isPrefixOf (d :: (a ++ [42])) = false := by
      cases a with
      | nil => simp [wc, List.isPrefixOf]
      | cons e a =>
        have : e ≠ 42 := fun q => h (by simp [q])
        simp [wc, List.isPrefixOf, Ne.symm this]
    rw [List.cons_append, sxL, hp, ih (fun q => h (List.mem_cons_of_mem _ q))]
    rfl

theorem shutL_get : ∀ (l : List UInt8) (d : Int) (i e : Nat), shutL l d i = some e → l[e - i]? = some 125
  | [], d, i, e, h => by simp [shutL] at h
  | b :: r, d, i, e, h => by
    have step : ∀ d', shutL r d' (i + 1) = some e → (b :: r)[e - i]? = some 125 := fun d' h' => by
      have hr := (shutL_range _ _ _ _ h').1
      have := shutL_get r d' (i + 1) e h'
      rw [show e - i = (e - (i + 1)) + 1 by omega, List.getElem?_cons_succ]
      exact this
    rw [shutL] at h
    by_cases h1 : b = 123
    · rw [if_pos h1] at h; exact step _ h
    · rw [if_neg h1] at h
      by_cases h2 : b = 125
      · rw [if_pos h2] at h
        by_cases h3 : d - 1 = 0
        · rw [if_pos h3] at h; simp at h; subst h; simp [h2]
        · rw [if_neg h3] at h; exact step _ h
      · rw [if_neg h2] at h; exact step _ h

theorem mem_anch (x : ByteArray) (h : 47 ∉ (anch x).data.toList) : 47 ∉ x.data.toList := by
  unfold anch at h
  split at h
  · exact h
  · intro q
    apply h
    rw [ba_append, ba_append]
    simp [q]

theorem ext_list (s : ByteArray) (a b : Nat) : (s.extract a b).data.toList = (s.data.toList.drop a).take (b - a) := by
  have := Lib.extract_toList s a b
  rwa [Lib.toList_data] at this

/-- One placeholder, and what stands behind it. -/
theorem one_part {s : ByteArray} {o e : Nat} (ho : ix s 123 = some o) (hs42 : ∀ t, ix s 42 = some t → o ≤ t) (he : shutAt s o = some e) (hk : sxL wc (Seg.partAt s o e).key.data.toList = none) (hx : (Seg.partAt s o e).kind = 1 → 47 ∉ (Seg.partAt s o e).expr.data.toList) (hrest : sxL wc (s.data.toList.drop (e + 1)) = none) : sxL wc s.data.toList = none := by
  obtain ⟨r1, r2⟩ := shutAt_range ho he
  have hl : s.data.toList.length = s.size := by simp
  have g1 := ixL_get _ _ _ ho
  have g2 : s.data.toList[e]? = some 125 := by
    have := shutL_get _ _ _ _ he
    rw [List.getElem?_drop, show o + (e - o) = e by omega] at this
    exact this
  have h4 : o < s.data.toList.length := by omega
  have h5 : e < s.data.toList.length := by omega
  have e1 : s.data.toList[o] = 123 := by rw [List.getElem?_eq_getElem h4] at g1; exact Option.some.inj g1
  have e2 : s.data.toList[e] = 125 := by rw [List.getElem?_eq_getElem h5] at g2; exact Option.some.inj g2
  -- the four pieces
  have hpre : sxL wc (s.data.toList.take o) = none := no42 _ (by
    cases h : ix s 42 with
    | none => exact fun q => ixL_none _ _ h (List.mem_of_mem_take q)
    | some t =>
      have := hs42 t h
      intro q
      have hb := ixL_before _ _ _ h
      exact hb (List.mem_of_mem_take (l := s.data.toList.take t) (i := o) (by rw [List.take_take, Nat.min_eq_left this]; exact q)))
  have hmid : sxL wc ((s.data.toList.drop (o + 1)).take (e - (o + 1))) = none := by
    rw [← ext_list]
    unfold Seg.partAt at hk hx
    cases hc : ix (s.extract (o + 1) e) 58 with
    | none => rw [hc] at hk; exact hk
    | some c =>
      rw [hc] at hk hx
      dsimp only at hk hx
      have hx := mem_anch _ (hx rfl)
      generalize s.extract (o + 1) e = k at hc hk hx ⊢
      have hcl := ix_lt hc
      have gc := ixL_get _ _ _ hc
      have h6 : c < k.data.toList.length := by simpa using hcl
      have e3 : k.data.toList[c] = 58 := by rw [List.getElem?_eq_getElem h6] at gc; exact Option.some.inj gc
      have ek : k.data.toList = k.data.toList.take c ++ 58 :: k.data.toList.drop (c + 1) := by
        rw [← e3, ← List.drop_eq_getElem_cons h6, List.take_append_drop]
      rw [ek]
      rw [ext_list] at hk hx
      refine apart _ (no47 _ ?_) 58 (by decide) (by decide) _ (by simpa using hk)
      rwa [List.take_of_length_le (by simp)] at hx
  have es : s.data.toList = s.data.toList.take o ++ 123 :: ((s.data.toList.drop (o + 1)).take (e - (o + 1)) ++ 125 :: s.data.toList.drop (e + 1)) := by
    have a1 : (s.data.toList.drop (o + 1)) = (s.data.toList.drop (o + 1)).take (e - (o + 1)) ++ 125 :: s.data.toList.drop (e + 1) := by
      have := List.take_append_drop (e - (o + 1)) (s.data.toList.drop (o + 1))
      rw [List.drop_drop, show o + 1 + (e - (o + 1)) = e by omega, List.drop_eq_getElem_cons h5, e2] at this
      exact this.symm
    rw [← a1, ← e1, ← List.drop_eq_getElem_cons h4, List.take_append_drop]
  rw [es]
  exact apart _ (apart _ hrest 125 (by decide) (by decide) _ hmid) 123 (by decide) (by decide) _ hpre

def cleanParts (L : List Part) : Prop := ∀ p ∈ L, sxL wc p.key.data.toList = none ∧ (p.kind = 1 → 47 ∉ p.expr.data.toList)

theorem parts_clean : ∀ (f : Nat) (s : ByteArray) (L : List Part), plist f s = some L → cleanParts L → sxL wc s.data.toList = none
  | 0, s, L, h, _ => by simp [plist] at h
  | f + 1, s, L, h, hc => by
    rw [plist] at h
    by_cases h0 : s.size = 0
    · have : s.data.toList = [] := List.length_eq_zero_iff.1 (by simpa using h0)
      rw [this]; rfl
    · rw [if_neg h0] at h
      cases hg : segOf s with
      | none => rw [hg] at h; simp at h
      | some p =>
        rw [hg] at h
        dsimp only at h
        have rest : ¬ p.kind = 0 → (sxL wc (s.extract p.til.toNat s.size).data.toList = none ∧ p ∈ L) := fun hk => by
          rw [if_neg hk] at h
          cases hl : plist f (s.extract p.til.toNat s.size) with
          | none => rw [hl] at h; simp at h
          | some r =>
            rw [hl] at h
            simp at h
            subst h
            exact ⟨parts_clean f _ r hl (fun q hq => hc q (by simp [hq])), by simp⟩
        unfold segOf at hg
        cases h1 : ix s 123 with
        | none =>
          rw [h1] at hg
          cases h2 : ix s 42 with
          | none => exact no42 _ (ixL_none _ _ h2)
          | some t =>
            rw [h2] at hg
            dsimp only at hg
            by_cases h3 : t + 1 = s.size
            · have hl : s.data.toList.length = s.size := by simp
              have h4 : t < s.data.toList.length := by omega
              have g := ixL_get _ _ _ h2
              have e1 : s.data.toList[t] = 42 := by rw [List.getElem?_eq_getElem h4] at g; exact Option.some.inj g
              have es : s.data.toList = s.data.toList.take t ++ [42] := by
                have := List.take_append_drop t s.data.toList
                rw [List.drop_eq_getElem_cons h4, e1, List.drop_eq_nil_of_le (by omega)] at this
                exact this.symm
              rw [es]
              exact starEnd _ (ixL_before _ _ _ h2)
            · rw [if_neg h3] at hg; simp at hg
        | some o =>
          have key : ∀ e, (∀ t, ix s 42 = some t → o ≤ t) → shutAt s o = some e → p = Seg.partAt s o e → sxL wc s.data.toList = none := fun e ht he hp => by
            obtain ⟨c1, c2, c3⟩ := partAt_til s o e
            subst hp
            obtain ⟨hr, hm⟩ := rest (by rcases c3 with c3 | c3 <;> rw [c3] <;> decide)
            obtain ⟨hk, hx⟩ := hc _ hm
            refine one_part h1 ht he hk hx ?_
            rw [ext_list, c1] at hr
            rwa [show ((e : Int) + 1).toNat = e + 1 by omega, List.take_of_length_le (by simp)] at hr
          rw [h1] at hg
          cases h2 : ix s 42 with
          | none =>
            rw [h2] at hg
            dsimp only at hg
            cases h4 : shutAt s o with
            | none => rw [h4] at hg; simp at hg
            | some e => rw [h4] at hg; simp at hg; exact key e (fun t q => by rw [h2] at q; cases q) h4 hg.symm
          | some t =>
            rw [h2] at hg
            dsimp only at hg
            by_cases h3 : t < o
            · rw [if_pos h3] at hg; simp at hg
            · rw [if_neg h3] at hg
              cases h4 : shutAt s o with
              | none => rw [h4] at hg; simp at hg
              | some e => rw [h4] at hg; simp at hg; exact key e (fun t' q => by rw [h2] at q; cases q; omega) h4 hg.symm

end Go.Proofs.Ytjcjdkgoegfhkaa.Joi
