/- The next part of a pattern, in plain words over its bytes: the first place of a byte, the brace that closes, the part itself. No program in sight. -/
import Derived.Lib.Strings
import Derived.Laws.RangeAny
namespace Go.Proofs.Ytjcjdkgoegfhkaa.Seg

/-- The first place of a byte. -/
def ixL (c : UInt8) : List UInt8 → Option Nat
  | [] => none
  | b :: r => if b = c then some 0 else (ixL c r).map (· + 1)
def ix (s : ByteArray) (c : UInt8) : Option Nat := ixL c s.data.toList

/-- The first place of a text. -/
def sxL (sub : List UInt8) : List UInt8 → Option Nat
  | [] => if sub = [] then some 0 else none
  | b :: r => if sub.isPrefixOf (b :: r) then some 0 else (sxL sub r).map (· + 1)
def sx (s sub : ByteArray) : Option Nat := sxL sub.data.toList s.data.toList

theorem sxL_one (c : UInt8) : ∀ l, sxL [c] l = ixL c l
  | [] => by simp [sxL, ixL]
  | b :: r => by
    simp only [sxL, ixL, sxL_one c r, List.isPrefixOf]
    by_cases h : b = c
    · subst h; simp
    · simp [h, Ne.symm h]

theorem sxL_short (sub : List UInt8) : ∀ l, l.length < sub.length → sxL sub l = none
  | [], h => by
    have : sub ≠ [] := by rintro rfl; simp at h
    simp [sxL, this]
  | b :: r, h => by
    have hp : sub.isPrefixOf (b :: r) = false := by
      cases hq : sub.isPrefixOf (b :: r) with
      | false => rfl
      | true => have := (List.isPrefixOf_iff_prefix.1 hq).length_le; omega
    rw [sxL, hp, sxL_short sub r (by simp at h; omega)]
    rfl

theorem ixL_lt (c : UInt8) : ∀ l n, ixL c l = some n → n < l.length
  | [], n, h => by simp [ixL] at h
  | b :: r, n, h => by
    rw [ixL] at h
    by_cases e : b = c
    · rw [if_pos e] at h; simp at h; subst h; simp
    · rw [if_neg e] at h
      cases hr : ixL c r with
      | none => rw [hr] at h; simp at h
      | some m => rw [hr] at h; simp at h; have := ixL_lt c r m hr; simp; omega
theorem ixL_get (c : UInt8) : ∀ l n, ixL c l = some n → l[n]? = some c
  | [], n, h => by simp [ixL] at h
  | b :: r, n, h => by
    rw [ixL] at h
    by_cases e : b = c
    · rw [if_pos e] at h; simp at h; subst h; simp [e]
    · rw [if_neg e] at h
      cases hr : ixL c r with
      | none => rw [hr] at h; simp at h
      | some m => rw [hr] at h; simp at h; subst h; simpa using ixL_get c r m hr
theorem ixL_none (c : UInt8) : ∀ l, ixL c l = none → c ∉ l
  | [], _ => by simp
  | b :: r, h => by
    rw [ixL] at h
    by_cases e : b = c
    · rw [if_pos e] at h; simp at h
    · rw [if_neg e] at h
      cases hr : ixL c r with
      | none => have := ixL_none c r hr; simp [Ne.symm e, this]
      | some m => rw [hr] at h; simp at h
theorem ixL_before (c : UInt8) : ∀ l n, ixL c l = some n → c ∉ l.take n
  | [], n, h => by simp [ixL] at h
  | b :: r, n, h => by
    rw [ixL] at h
    by_cases e : b = c
    · rw [if_pos e] at h; simp at h; subst h; simp
    · rw [if_neg e] at h
      cases hr : ixL c r with
      | none => rw [hr] at h; simp at h
      | some m =>
        rw [hr] at h; simp at h; subst h
        have := ixL_before c r m hr
        simp [Ne.symm e, this]

theorem ix_lt {s : ByteArray} {c : UInt8} {n : Nat} (h : ix s c = some n) : n < s.size := by
  have := ixL_lt c _ n h; simpa using this

/-- The brace that closes: depth d, place i of the first byte. -/
def shutL : List UInt8 → Int → Nat → Option Nat
  | [], _, _ => none
  | b :: r, d, i => if b = 123 then shutL r (d + 1) (i + 1) else if b = 125 then (if d - 1 = 0 then some i else shutL r (d - 1) (i + 1)) else shutL r d (i + 1)
def shutAt (s : ByteArray) (o : Nat) : Option Nat := shutL (s.data.toList.drop o) 0 o

theorem shutL_range : ∀ (l : List UInt8) (d : Int) (i e : Nat), shutL l d i = some e → i ≤ e ∧ e < i + l.length
  | [], d, i, e, h => by simp [shutL] at h
  | b :: r, d, i, e, h => by
    rw [shutL] at h
    by_cases h1 : b = 123
    · rw [if_pos h1] at h; have := shutL_range r _ _ e h; simp; omega
    · rw [if_neg h1] at h
      by_cases h2 : b = 125
      · rw [if_pos h2] at h
        by_cases h3 : d - 1 = 0
        · rw [if_pos h3] at h; simp at h; subst h; simp
        · rw [if_neg h3] at h; have := shutL_range r _ _ e h; simp; omega
      · rw [if_neg h2] at h; have := shutL_range r _ _ e h; simp; omega

theorem shutAt_range {s : ByteArray} {o e : Nat} (ho : ix s 123 = some o) (h : shutAt s o = some e) : o < e ∧ e < s.size := by
  have hg := ixL_get _ _ _ ho
  have hlt := ix_lt ho
  obtain ⟨h1, h2⟩ := shutL_range _ _ _ _ h
  rw [List.length_drop] at h2
  have hs : s.data.toList.length = s.size := by simp
  refine ⟨?_, by omega⟩
  rcases Nat.lt_or_ge o e with h3 | h3
  · exact h3
  · have h4 : o < s.data.toList.length := by omega
    unfold shutAt at h
    rw [List.drop_eq_getElem_cons h4, show s.data.toList[o] = 123 by rw [List.getElem?_eq_getElem h4] at hg; exact Option.some.inj hg] at h
    rw [shutL, if_pos rfl] at h
    have := (shutL_range _ _ _ _ h).1
    omega

/-- The byte behind a placeholder that ends at e; a slash if there is none. -/
def tailOf (s : ByteArray) (e : Nat) : Int := if h : e < s.size then ((s[e]'h).toNat : Int) else 47

/-- What stands ahead of an expression, and behind it, so that it is one for the whole value. -/
def front (x : ByteArray) : ByteArray := if x.data.toList.head? = some 94 then ⟨#[]⟩ else ⟨#[94]⟩
def back (x : ByteArray) : ByteArray := if x.data.toList.getLast? = some 36 then ⟨#[]⟩ else ⟨#[36]⟩
def anch (x : ByteArray) : ByteArray := if x.size = 0 then x else (front x ++ x) ++ back x

/-- A part of a pattern. -/
structure Part where
  kind : Int
  key : ByteArray
  expr : ByteArray
  tail : Int
  frm : Int
  til : Int

/-- The part of a placeholder from o to the brace at e. -/
def partAt (s : ByteArray) (o e : Nat) : Part :=
  match ix (s.extract (o + 1) e) 58 with
  | none => ⟨2, s.extract (o + 1) e, ⟨#[]⟩, tailOf s (e + 1), o, (e : Int) + 1⟩
  | some c => ⟨1, (s.extract (o + 1) e).extract 0 c, anch ((s.extract (o + 1) e).extract (c + 1) (s.extract (o + 1) e).size), tailOf s (e + 1), o, (e : Int) + 1⟩

/-- The next part of a pattern; none if it is refused. -/
def segOf (s : ByteArray) : Option Part :=
  match ix s 123, ix s 42 with
  | none, none => some ⟨0, ⟨#[]⟩, ⟨#[]⟩, 0, 0, s.size⟩
  | none, some t => if t + 1 = s.size then some ⟨3, ⟨#[42]⟩, ⟨#[]⟩, 0, t, s.size⟩ else none
  | some o, none => (shutAt s o).map (partAt s o)
  | some o, some t => if t < o then none else (shutAt s o).map (partAt s o)

end Go.Proofs.Ytjcjdkgoegfhkaa.Seg
