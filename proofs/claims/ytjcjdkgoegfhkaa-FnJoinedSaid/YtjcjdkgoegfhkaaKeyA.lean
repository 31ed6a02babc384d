/- The keys of a pattern in plain words: all parts, the keys one by one, and that both roads come to one answer. No program in sight. -/
import Derived.Test.YtjcjdkgoegfhkaaSegE0
namespace Go.Proofs.Ytjcjdkgoegfhkaa.Seg

/-- A fixed text of n bytes as a part. -/
def fixedPart (n : Int) : Part := ⟨0, ⟨#[]⟩, ⟨#[]⟩, 0, 0, n⟩

/-- All parts of a pattern (the first argument bounds the rounds). -/
def plist : Nat → ByteArray → Option (List Part)
  | 0, _ => none
  | f + 1, s => if s.size = 0 then some [] else
    match segOf s with
    | none => none
    | some p => if p.kind = 0 then some [p] else (plist f (s.extract p.til.toNat s.size)).map (fun r => (if 0 < p.frm then [fixedPart p.frm] else []) ++ p :: r)

/-- Whether a key stands in a list. -/
def hasKey (K : List ByteArray) (k : ByteArray) : Bool := K.any (fun x => x.toList == k.toList)

/-- The keys of parts, behind those of K; none if one stands there twice. -/
def keyFold : List Part → List ByteArray → Option (List ByteArray)
  | [], K => some K
  | p :: r, K => if p.kind = 0 then keyFold r K else if hasKey K p.key then none else keyFold r (K ++ [p.key])

/-- The keys of a pattern behind those of K, part by part. -/
def keyRun : Nat → ByteArray → List ByteArray → Option (List ByteArray)
  | 0, _, _ => none
  | f + 1, s, K =>
    match segOf s with
    | none => none
    | some p => if p.kind = 0 then some K else if hasKey K p.key then none else keyRun f (s.extract p.til.toNat s.size) (K ++ [p.key])

theorem partAt_til (s : ByteArray) (o e : Nat) : (partAt s o e).til = (e : Int) + 1 ∧ (partAt s o e).frm = o ∧ ((partAt s o e).kind = 1 ∨ (partAt s o e).kind = 2) := by
  unfold partAt
  cases ix (s.extract (o + 1) e) 58 <;> simp

/-- What a part that is no fixed text tells of its places. -/
theorem seg_places {s : ByteArray} {p : Part} (h : segOf s = some p) : (p.kind = 0 ∧ p.frm = 0 ∧ p.til = s.size) ∨ (¬ p.kind = 0 ∧ 0 ≤ p.frm ∧ p.frm < p.til ∧ p.til ≤ s.size) := by
  unfold segOf at h
  cases h1 : ix s 123 with
  | none =>
    rw [h1] at h
    cases h2 : ix s 42 with
    | none => rw [h2] at h; simp at h; subst h; exact .inl ⟨rfl, rfl, rfl⟩
    | some t =>
      rw [h2] at h
      dsimp only at h
      by_cases h3 : t + 1 = s.size
      · rw [if_pos h3] at h; simp at h; subst h; right; dsimp only; omega
      · rw [if_neg h3] at h; simp at h
  | some o =>
    have key : ∀ e, shutAt s o = some e → p = partAt s o e → (p.kind = 0 ∧ p.frm = 0 ∧ p.til = s.size) ∨ (¬ p.kind = 0 ∧ 0 ≤ p.frm ∧ p.frm < p.til ∧ p.til ≤ s.size) := fun e he hp => by
      obtain ⟨a, b⟩ := shutAt_range h1 he
      obtain ⟨c1, c2, c3⟩ := partAt_til s o e
      subst hp
      right
      rw [c1, c2]
      refine ⟨by rcases c3 with c3 | c3 <;> rw [c3] <;> decide, by omega, by omega, by omega⟩
    rw [h1] at h
    cases h2 : ix s 42 with
    | none =>
      rw [h2] at h
      dsimp only at h
      cases h4 : shutAt s o with
      | none => rw [h4] at h; simp at h
      | some e => rw [h4] at h; simp at h; exact key e h4 h.symm
    | some t =>
      rw [h2] at h
      dsimp only at h
      by_cases h3 : t < o
      · rw [if_pos h3] at h; simp at h
      · rw [if_neg h3] at h
        cases h4 : shutAt s o with
        | none => rw [h4] at h; simp at h
        | some e => rw [h4] at h; simp at h; exact key e h4 h.symm

theorem keyFold_fixed (r : List Part) (K : List ByteArray) (n : Int) : keyFold (fixedPart n :: r) K = keyFold r K := by
  rw [keyFold, if_pos (show (fixedPart n).kind = 0 from rfl)]

theorem seg_empty (s : ByteArray) (h : s.size = 0) : segOf s = some ⟨0, ⟨#[]⟩, ⟨#[]⟩, 0, 0, s.size⟩ := by
  have e : s.data.toList = [] := List.length_eq_zero_iff.1 (by simpa using h)
  have h1 : ix s 123 = none := by unfold ix; rw [e]; rfl
  have h2 : ix s 42 = none := by unfold ix; rw [e]; rfl
  unfold segOf
  rw [h1, h2]

theorem run_eq : ∀ (f : Nat) (s : ByteArray) (K : List ByteArray), s.size < f → keyRun f s K = (plist f s).bind (fun L => keyFold L K)
  | 0, s, K, h => by omega
  | f + 1, s, K, h => by
    rw [keyRun, plist]
    by_cases h0 : s.size = 0
    · rw [if_pos h0, seg_empty s h0]; simp [keyFold]
    · rw [if_neg h0]
      cases hg : segOf s with
      | none => simp
      | some p =>
        dsimp only
        rcases seg_places hg with ⟨hk, _, _⟩ | ⟨hk, hp1, hp2, hp3⟩
        · rw [if_pos hk, if_pos hk]; simp [keyFold, hk]
        · rw [if_neg hk, if_neg hk]
          have hsz : (s.extract p.til.toNat s.size).size < f := by simp; omega
          have fold : ∀ r, keyFold ((if 0 < p.frm then [fixedPart p.frm] else []) ++ p :: r) K = if hasKey K p.key then none else keyFold r (K ++ [p.key]) := fun r => by
            have e : keyFold (p :: r) K = if hasKey K p.key then none else keyFold r (K ++ [p.key]) := by rw [keyFold, if_neg hk]
            by_cases hf : 0 < p.frm
            · rw [if_pos hf, List.cons_append, List.nil_append, keyFold_fixed, e]
            · rw [if_neg hf, List.nil_append, e]
          by_cases hd : hasKey K p.key = true
          · rw [if_pos hd]
            cases hl : plist f (s.extract p.til.toNat s.size) with
            | none => rfl
            | some r => simp only [Option.map_some, Option.bind_some, fold, if_pos hd]
          · rw [if_neg hd, run_eq f _ _ hsz]
            cases hl : plist f (s.extract p.til.toNat s.size) with
            | none => rfl
            | some r => simp only [Option.map_some, Option.bind_some, fold, if_neg hd]

/-- The keys of a pattern; none if it is refused. -/
def keysOf (s : ByteArray) : Option (List ByteArray) := keyRun (s.size + 1) s []
def allParts (s : ByteArray) : Option (List Part) := plist (s.size + 1) s
theorem keysOf_eq (s : ByteArray) : keysOf s = (allParts s).bind (fun L => keyFold L []) := run_eq _ _ _ (by omega)

end Go.Proofs.Ytjcjdkgoegfhkaa.Seg
