/- The walks of spec.index (from the first byte on), chi.zzIndex and chi.zzCut: the first place of a byte, of a text, and the text ahead of it and behind it. Conditions: sizes within the reach. -/
import Derived.Test.YtjcjdkgoegfhkaaProg
import Derived.Test.YtjcjdkgoegfhkaaSegA
import Derived.WalkKit
import Derived.WalkSpells
import Derived.Lib.Hide
import Derived.Deep.QuietTactic
import Derived.BigQuiet
import Derived.Outline
namespace Go.Proofs.Ytjcjdkgoegfhkaa.Seg
open Go.RowKit

/-- A place as Go tells it. -/
def oi : Option Nat → Int
  | none => -1
  | some n => n

theorem ixL_drop (s : ByteArray) (c : UInt8) (k : Nat) (h : k < s.size) : ixL c (s.data.toList.drop k) = if s[k] = c then some 0 else (ixL c (s.data.toList.drop (k + 1))).map (· + 1) := by
  have h4 : k < s.data.toList.length := by simpa using h
  rw [List.drop_eq_getElem_cons h4, ixL]
  rfl

theorem oi_step {a b : Option Nat} (h : a = b.map (· + 1)) : a = b.map (fun j => 1 + j) := by
  rw [h]; congr 1; funext j; omega

/-- From place k on. -/
def from_ (o : Option Nat) (k : Nat) : Option Nat := o.map (· + k)
theorem from_succ (o : Option Nat) (k : Nat) : from_ (o.map (· + 1)) k = from_ o (k + 1) := by
  cases o <;> simp [from_]; omega

theorem ix_step (s : ByteArray) (c : UInt8) (k : Nat) (h : k < s.size) (hne : s[k] ≠ c) (hh : ix s c = from_ (ixL c (s.data.toList.drop k)) k) : ix s c = from_ (ixL c (s.data.toList.drop (k + 1))) (k + 1) := by
  rw [hh, ixL_drop s c k h, if_neg hne, from_succ]
theorem ix_hit (s : ByteArray) (c : UInt8) (k : Nat) (h : k < s.size) (he : s[k] = c) (hh : ix s c = from_ (ixL c (s.data.toList.drop k)) k) : ix s c = some k := by
  rw [hh, ixL_drop s c k h, if_pos he]; simp [from_]
theorem ix_out (s : ByteArray) (c : UInt8) (k : Nat) (h : ¬ k < s.size) (hh : ix s c = from_ (ixL c (s.data.toList.drop k)) k) : ix s c = none := by
  rw [hh, List.drop_eq_nil_of_le (by simp; omega)]; rfl

set_option maxRecDepth 100000 in
set_option maxHeartbeats 1000000 in
theorem index_any (s : ByteArray) (c : UInt8) (n : Int) (hn : n = (c.toNat : Int)) (w : World) (hs : s.size ≤ 140737488355328) :
    Calls Try.prog 22 #[.string s, .int .u8 n, .int .i64 0] w fun e w' => e = .returned (.int .i64 (oi (ix s c))) ∧ w = w' := by
  have HN := Lib.hid hn
  clear hn
  go_enter Try.func22, Try.ntmps22
  go_wp2
  go_loop [7] (fun i => ∃ k : Nat, k ≤ s.size ∧ i = .int .i64 k ∧ Hid (ix s c = from_ (ixL c (s.data.toList.drop k)) k)) (fun i => s.size - (intOf i).toNat)
  case atStart => exact ⟨0, Nat.zero_le _, rfl, Lib.hid (by unfold ix from_; simp)⟩
  case round =>
    obtain ⟨k, hk, rfl, hh⟩ := hrel
    by_cases hlt : k < s.size
    · by_cases he : s[k] = c
      · have t1 : ((s[k].toNat : Int) == n) = true := by rw [he, HN.out]; simp
        have HE := Lib.hid (ix_hit s c k hlt he hh.out)
        clear he hh
        go_wp2
        go_ret
        exact ⟨by rw [HE.out]; rfl, rfl⟩
      · have t1 : ((s[k].toNat : Int) == n) = false := by
          rw [beq_eq_false_iff_ne, HN.out]
          intro h
          exact he (UInt8.toNat_inj.1 (by omega))
        have HE := Lib.hid (ix_step s c k hlt he hh.out)
        clear he hh
        go_wp2
        go_round
        case rel => exact ⟨k + 1, by omega, by go_num, HE⟩
        case measure => simp [intOf]; omega
    · have HE := Lib.hid (ix_out s c k hlt hh.out)
      clear hh
      go_wp2
      go_ret
      exact ⟨by rw [HE.out]; rfl, rfl⟩

theorem prefix_iff (s sub : ByteArray) (k : Nat) : (s.extract k (k + sub.size)).toList = sub.toList ↔ sub.data.toList.isPrefixOf (s.data.toList.drop k) = true := by
  rw [Lib.extract_toList, Lib.toList_data, show k + sub.size - k = sub.data.toList.length by simp]
  rw [List.isPrefixOf_iff_prefix]
  constructor
  · intro e; rw [← e]; exact List.take_prefix _ _
  · rintro ⟨t, ht⟩; rw [← ht]; simp

theorem sxL_drop (s sub : ByteArray) (k : Nat) (h : k < s.size) : sxL sub.data.toList (s.data.toList.drop k) = if sub.data.toList.isPrefixOf (s.data.toList.drop k) then some 0 else (sxL sub.data.toList (s.data.toList.drop (k + 1))).map (· + 1) := by
  have h4 : k < s.data.toList.length := by simpa using h
  rw [List.drop_eq_getElem_cons h4, sxL]
theorem sx_step (s sub : ByteArray) (k : Nat) (h : k + sub.size ≤ s.size) (h0 : 0 < sub.size) (hne : ¬ (s.extract k (k + sub.size)).toList = sub.toList) (hh : sx s sub = from_ (sxL sub.data.toList (s.data.toList.drop k)) k) :
    sx s sub = from_ (sxL sub.data.toList (s.data.toList.drop (k + 1))) (k + 1) := by
  rw [hh, sxL_drop s sub k (by omega), if_neg (fun e => hne ((prefix_iff s sub k).2 e)), from_succ]
theorem sx_hit (s sub : ByteArray) (k : Nat) (h : k + sub.size ≤ s.size) (h0 : 0 < sub.size) (he : (s.extract k (k + sub.size)).toList = sub.toList) (hh : sx s sub = from_ (sxL sub.data.toList (s.data.toList.drop k)) k) : sx s sub = some k := by
  rw [hh, sxL_drop s sub k (by omega), if_pos ((prefix_iff s sub k).1 he)]; simp [from_]
theorem sx_out (s sub : ByteArray) (k : Nat) (hk : k ≤ s.size) (h : ¬ k + sub.size ≤ s.size) (hh : sx s sub = from_ (sxL sub.data.toList (s.data.toList.drop k)) k) : sx s sub = none := by
  rw [hh, sxL_short _ _ (by simp; omega)]; rfl

set_option maxRecDepth 100000 in
set_option maxHeartbeats 1000000 in
theorem zzindex_any (s sub : ByteArray) (w : World) (h0 : 0 < sub.size) (hs : s.size ≤ 140737488355328) (hb : sub.size ≤ 140737488355328) :
    Calls Try.prog 45 #[.string s, .string sub] w fun e w' => e = .returned (.int .i64 (oi (sx s sub))) ∧ w = w' := by
  go_enter Try.func45, Try.ntmps45
  go_wp2
  go_loop [5] (fun i => ∃ k : Nat, k ≤ s.size ∧ i = .int .i64 k ∧ Hid (sx s sub = from_ (sxL sub.data.toList (s.data.toList.drop k)) k)) (fun i => s.size - (intOf i).toNat)
  case atStart => exact ⟨0, Nat.zero_le _, rfl, Lib.hid (by unfold sx from_; simp)⟩
  case round =>
    obtain ⟨k, hk, rfl, hh⟩ := hrel
    by_cases hlt : k + sub.size ≤ s.size
    · by_cases he : (s.extract k (k + sub.size)).toList = sub.toList
      · have t1 : ((s.extract k (k + sub.size)).toList == sub.toList) = true := by rw [he]; simp
        have HE := Lib.hid (sx_hit s sub k hlt h0 he hh.out)
        clear he hh
        go_wp2
        go_ret
        exact ⟨by rw [HE.out]; rfl, rfl⟩
      · have t1 : ((s.extract k (k + sub.size)).toList == sub.toList) = false := by simpa using he
        have HE := Lib.hid (sx_step s sub k hlt h0 he hh.out)
        clear he hh
        go_wp2
        go_round
        case rel => exact ⟨k + 1, by omega, by go_num, HE⟩
        case measure => simp [intOf]; omega
    · have HE := Lib.hid (sx_out s sub k hk hlt hh.out)
      clear hh
      go_wp2
      go_ret
      exact ⟨by rw [HE.out]; rfl, rfl⟩

theorem zzcut_none (s sub : ByteArray) (w : World) (h0 : 0 < sub.size) (hs : s.size ≤ 140737488355328) (hb : sub.size ≤ 140737488355328) (h : sx s sub = none) :
    Calls Try.prog 46 #[.string s, .string sub] w fun e w' => e = .returned (.tuple #[.string s, .string ⟨#[]⟩, .bool false]) ∧ ∃ n, w' = w.drewN n := by
  have H := Lib.hid h
  clear h
  go_enter Try.func46, Try.ntmps46
  go_wp2_with fail
  refine (zzindex_any s sub _ h0 hs hb).mono ?_
  rintro e w' ⟨rfl, rfl⟩
  rw [H.out]
  simp only [oi]
  go_wp2_with fail
  go_ret3
  exact ⟨rfl, 0, rfl⟩

theorem sx_le {s sub : ByteArray} {n : Nat} (h : sx s sub = some n) : n + sub.size ≤ s.size := by
  have key : ∀ (l : List UInt8) (n : Nat), sxL sub.data.toList l = some n → n + sub.data.toList.length ≤ l.length := by
    intro l
    induction l with
    | nil => intro n h; rw [sxL] at h; split at h
             · next e => rw [e]; simp at h; subst h; simp
             · simp at h
    | cons b r ih =>
      intro n h
      rw [sxL] at h
      split at h
      · next e => simp at h; subst h; have := (List.isPrefixOf_iff_prefix.1 e).length_le; omega
      · cases hr : sxL sub.data.toList r with
        | none => rw [hr] at h; simp at h
        | some m => rw [hr] at h; simp at h; have := ih m hr; simp at this ⊢; omega
  simpa using key _ _ h

set_option maxHeartbeats 1000000 in
theorem zzcut_some (s sub : ByteArray) (w : World) (h0 : 0 < sub.size) (hs : s.size ≤ 140737488355328) (hb : sub.size ≤ 140737488355328) (n : Nat) (h : sx s sub = some n) :
    Calls Try.prog 46 #[.string s, .string sub] w fun e w' => e = .returned (.tuple #[.string (s.extract 0 n), .string (s.extract (n + sub.size) s.size), .bool true]) ∧ ∃ n, w' = w.drewN n := by
  have hle := sx_le h
  have H := Lib.hid h
  clear h
  go_enter Try.func46, Try.ntmps46
  go_wp2_with fail
  refine (zzindex_any s sub _ h0 hs hb).mono ?_
  rintro e w' ⟨rfl, rfl⟩
  rw [H.out]
  simp only [oi]
  have p1 : (0 : Int) ≤ (n : Int) := by omega
  have p2 : (n : Int) ≤ (s.size : Int) := by omega
  have p3 : (0 : Int) ≤ (n : Int) + (sub.size : Int) := by omega
  have p4 : (n : Int) + (sub.size : Int) ≤ (s.size : Int) := by omega
  go_wp2_with fail
  go_quiet (fail)
  go_wp2_with fail
  go_ret3
  exact ⟨rfl, _, rfl⟩

end Go.Proofs.Ytjcjdkgoegfhkaa.Seg
