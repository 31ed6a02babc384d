/- The walk of chi.patNextSegment: the next part of a pattern as segOf tells it; a panic where it is refused. Conditions: at most 1000 bytes. -/
import Derived.Test.YtjcjdkgoegfhkaaSegB
import Derived.WalkSmall
import Derived.WalkLawsBesides
namespace Go.Proofs.Ytjcjdkgoegfhkaa.Seg
open Go.RowKit

theorem sx_one (s : ByteArray) (c : UInt8) : sx s ⟨#[c]⟩ = ix s c := sxL_one c s.data.toList

theorem decode_bytes (s : ByteArray) (pos : Nat) (h : pos < s.size) (ha : 128 ≤ (s[pos]'h).toNat) : ∀ j, j < (Utf8.decode s pos).2 → ∃ hj : pos + j < s.size, 128 ≤ (s[pos + j]'hj).toNat := by
  have hg : ∀ k, (hk : pos + k < s.size) → s.get! (pos + k) = s[pos + k]'hk := fun k hk => by
    show s.get! (pos + k) = _
    simp [ByteArray.get!, getElem!_pos, hk]
    rfl
  have c : ∀ k, (decide (pos + k < s.size) && (s.get! (pos + k)).toNat / 64 == 2) = true → ∃ hj : pos + k < s.size, 128 ≤ (s[pos + k]'hj).toNat := fun k hk => by
    simp only [Bool.and_eq_true, decide_eq_true_eq, beq_iff_eq] at hk
    refine ⟨hk.1, ?_⟩
    have := hk.2
    rw [hg k hk.1] at this
    omega
  have z : ∃ hj : pos + 0 < s.size, 128 ≤ (s[pos + 0]'hj).toNat := ⟨h, ha⟩
  have hn : ¬ (s.get! (pos + 0)).toNat < 128 := by rw [hg 0 h]; simpa using ha
  intro j hj
  simp only [Utf8.decode, hn, if_false] at hj
  split at hj
  · next h1 =>
    simp only [Bool.and_eq_true] at h1
    have h2 : j < 2 := by split at hj <;> simp_all <;> omega
    match j, h2 with
    | 0, _ => exact z
    | 1, _ => exact c 1 (by simpa using h1.2)
  · split at hj
    · next h1 =>
      simp only [Bool.and_eq_true] at h1
      have h2 : j < 3 := by split at hj <;> simp_all <;> omega
      match j, h2 with
      | 0, _ => exact z
      | 1, _ => exact c 1 (by simpa using h1.1.2)
      | 2, _ => exact c 2 (by simpa using h1.2)
    · split at hj
      · next h1 =>
        simp only [Bool.and_eq_true] at h1
        have h2 : j < 4 := by split at hj <;> simp_all <;> omega
        match j, h2 with
        | 0, _ => exact z
        | 1, _ => exact c 1 (by simpa using h1.1.1.2)
        | 2, _ => exact c 2 (by simpa using h1.1.2)
        | 3, _ => exact c 3 (by simpa using h1.2)
      · have h2 : j < 1 := by simpa using hj
        match j, h2 with
        | 0, _ => exact z

/-- Bytes above 127 are passed over. -/
theorem shutL_skip (s : ByteArray) (d : Int) : ∀ (n p : Nat), (∀ j, j < n → ∃ hj : p + j < s.size, 128 ≤ (s[p + j]'hj).toNat) → shutL (s.data.toList.drop p) d p = shutL (s.data.toList.drop (p + n)) d (p + n)
  | 0, p, _ => rfl
  | n + 1, p, h => by
    obtain ⟨h0, hb⟩ := h 0 (by omega)
    have hb' : 128 ≤ (s[p]'h0).toNat := hb
    have h4 : p < s.data.toList.length := by simpa using h0
    rw [List.drop_eq_getElem_cons h4, shutL]
    have e : s.data.toList[p] = s[p]'h0 := rfl
    rw [e, if_neg (by intro q; rw [q] at hb'; exact absurd hb' (by decide)), if_neg (by intro q; rw [q] at hb'; exact absurd hb' (by decide))]
    rw [shutL_skip s d n (p + 1) (fun j hj => by
      obtain ⟨q, hq⟩ := h (j + 1) (by omega)
      have e2 : p + 1 + j = p + (j + 1) := by omega
      exact ⟨by omega, by simpa [e2] using hq⟩)]
    rw [show p + 1 + n = p + (n + 1) by omega]

/-- One step of the search for the brace that closes. -/
theorem shutL_at (s : ByteArray) (d : Int) (p : Nat) (h : p < s.size) : shutL (s.data.toList.drop p) d p = if s[p] = 123 then shutL (s.data.toList.drop (p + 1)) (d + 1) (p + 1) else if s[p] = 125 then (if d - 1 = 0 then some p else shutL (s.data.toList.drop (p + 1)) (d - 1) (p + 1)) else shutL (s.data.toList.drop (p + 1)) d (p + 1) := by
  have h4 : p < s.data.toList.length := by simpa using h
  rw [List.drop_eq_getElem_cons h4, shutL]
  rfl

theorem sub_size (s : ByteArray) (o : Nat) : (s.extract o s.size).size = s.size - o := by simp
theorem sub_get (s : ByteArray) (o pos : Nat) (h : pos < (s.extract o s.size).size) (h' : o + pos < s.size) : (s.extract o s.size)[pos] = s[o + pos] := by
  simp [ByteArray.getElem_extract]

/-- One step of the range over the rest of a pattern. -/
inductive Step (s : ByteArray) (o pos : Nat) (d : Int) : Prop
  | opens (h : Utf8.decode (s.extract o s.size) pos = (123, 1)) (e : shutL (s.data.toList.drop (o + pos)) d (o + pos) = shutL (s.data.toList.drop (o + (pos + 1))) (d + 1) (o + (pos + 1)))
  | shuts (h : Utf8.decode (s.extract o s.size) pos = (125, 1)) (e : shutL (s.data.toList.drop (o + pos)) d (o + pos) = if d - 1 = 0 then some (o + pos) else shutL (s.data.toList.drop (o + (pos + 1))) (d - 1) (o + (pos + 1)))
  | other (r n : Nat) (h : Utf8.decode (s.extract o s.size) pos = (r, n)) (h1 : r ≠ 123) (h2 : r ≠ 125) (h3 : 1 ≤ n) (h4 : pos + n ≤ (s.extract o s.size).size) (e : shutL (s.data.toList.drop (o + pos)) d (o + pos) = shutL (s.data.toList.drop (o + (pos + n))) d (o + (pos + n)))

theorem step_of (s : ByteArray) (o pos : Nat) (d : Int) (h : pos < (s.extract o s.size).size) : Step s o pos d := by
  have hs := sub_size s o
  have h' : o + pos < s.size := by omega
  have hg := sub_get s o pos h h'
  have e0 := shutL_at s d (o + pos) h'
  by_cases ha : ((s.extract o s.size)[pos]'h).toNat < 128
  · have hd := decode_ascii (s.extract o s.size) pos h ha
    rw [hg] at hd
    by_cases h1 : s[o + pos] = 123
    · rw [if_pos h1] at e0
      exact .opens (by rw [hd, h1, show (123 : UInt8).toNat = 123 by decide]) e0
    · rw [if_neg h1] at e0
      by_cases h2 : s[o + pos] = 125
      · rw [if_pos h2] at e0
        exact .shuts (by rw [hd, h2, show (125 : UInt8).toNat = 125 by decide]) e0
      · rw [if_neg h2] at e0
        have n1 : (s[o + pos]).toNat ≠ 123 := fun e => h1 (UInt8.toNat_inj.1 (e.trans (by decide : 123 = (123 : UInt8).toNat)))
        have n2 : (s[o + pos]).toNat ≠ 125 := fun e => h2 (UInt8.toNat_inj.1 (e.trans (by decide : 125 = (125 : UInt8).toNat)))
        exact .other _ 1 hd n1 n2 (Nat.le_refl _) (by omega) e0
  · have hh := decode_high (s.extract o s.size) pos h (by omega)
    have hb := decode_bytes (s.extract o s.size) pos h (by omega)
    have hw : pos + (Utf8.decode (s.extract o s.size) pos).2 ≤ (s.extract o s.size).size := by
      obtain ⟨q, _⟩ := hb ((Utf8.decode (s.extract o s.size) pos).2 - 1) (by omega)
      omega
    have hk := shutL_skip s d (Utf8.decode (s.extract o s.size) pos).2 (o + pos) (fun j hj => by
      obtain ⟨q, hq⟩ := hb j hj
      have q' : o + (pos + j) < s.size := by omega
      rw [sub_get s o (pos + j) q q'] at hq
      have e2 : o + pos + j = o + (pos + j) := by omega
      exact ⟨by omega, by simpa [e2] using hq⟩)
    rw [Nat.add_assoc] at hk
    obtain ⟨r, n, hrn⟩ : ∃ r n, Utf8.decode (s.extract o s.size) pos = (r, n) := ⟨(Utf8.decode (s.extract o s.size) pos).1, (Utf8.decode (s.extract o s.size) pos).2, rfl⟩
    rw [hrn] at hh hw hk
    dsimp only at hh hw hk
    exact .other r n hrn (by omega) (by omega) hh.2 hw hk

def PanicPost (w : World) (e : Ending) (w' : World) : Prop := (∃ v, e = .panicked [{ v := .iface 9 (.string v), recovered := false }]) ∧ Below w.heap.size w w'
def PartPost (p : Part) (w : World) (e : Ending) (w' : World) : Prop := e = .returned (.tuple #[.int .u8 p.kind, .string p.key, .string p.expr, .int .u8 p.tail, .int .i64 p.frm, .int .i64 p.til]) ∧ Below w.heap.size w w'

set_option maxRecDepth 100000 in
set_option maxHeartbeats 2000000 in
theorem nd_A (s : ByteArray) (w : World) (hs : s.size ≤ 1000) (h1 : Hid (ix s 123 = none)) (h2 : Hid (ix s 42 = none)) :
    Calls Try.prog 38 #[.string s] w (PartPost ⟨0, ⟨#[]⟩, ⟨#[]⟩, 0, 0, s.size⟩ w) := by
  go_enter Try.func38, Try.ntmps38
  go_wp2_with fail
  refine (zzindex_any s ⟨#[123]⟩ _ (by decide) (by omega) (by decide)).mono ?_
  rintro e w' ⟨rfl, rfl⟩
  rw [sx_one, h1.out]
  simp only [oi]
  go_wp2_with fail
  refine (zzindex_any s ⟨#[42]⟩ _ (by decide) (by omega) (by decide)).mono ?_
  rintro e w' ⟨rfl, rfl⟩
  rw [sx_one, h2.out]
  simp only [oi]
  go_wp2_with fail
  exact bodyPost_ret (v := .tuple #[.int .u8 0, .string ⟨#[]⟩, .string ⟨#[]⟩, .int .u8 0, .int .i64 0, .int .i64 s.size]) (by simp [results, Try.results38, go_sem]) rfl ⟨rfl, Below.refl _ _⟩

set_option maxRecDepth 100000 in
set_option maxHeartbeats 2000000 in
theorem nd_B (s : ByteArray) (w : World) (t : Nat) (hs : s.size ≤ 1000) (h1 : Hid (ix s 123 = none)) (h2 : Hid (ix s 42 = some t)) (h3 : Hid (t + 1 = s.size)) :
    Calls Try.prog 38 #[.string s] w (PartPost ⟨3, ⟨#[42]⟩, ⟨#[]⟩, 0, t, s.size⟩ w) := by
  have h4 : (s.size : Int) - 1 ≤ (t : Int) := by have := h3.out; omega
  go_enter Try.func38, Try.ntmps38
  go_wp2_with fail
  refine (zzindex_any s ⟨#[123]⟩ _ (by decide) (by omega) (by decide)).mono ?_
  rintro e w' ⟨rfl, rfl⟩
  rw [sx_one, h1.out]
  simp only [oi]
  go_wp2_with fail
  refine (zzindex_any s ⟨#[42]⟩ _ (by decide) (by omega) (by decide)).mono ?_
  rintro e w' ⟨rfl, rfl⟩
  rw [sx_one, h2.out]
  simp only [oi]
  go_wp2_with fail
  exact bodyPost_ret (v := .tuple #[.int .u8 3, .string ⟨#[42]⟩, .string ⟨#[]⟩, .int .u8 0, .int .i64 t, .int .i64 s.size]) (by simp [results, Try.results38, go_sem]) rfl ⟨rfl, Below.refl _ _⟩

set_option maxRecDepth 100000 in
set_option maxHeartbeats 2000000 in
theorem nd_B_no (s : ByteArray) (w : World) (t : Nat) (hs : s.size ≤ 1000) (h1 : Hid (ix s 123 = none)) (h2 : Hid (ix s 42 = some t)) (h3 : Hid (¬ t + 1 = s.size)) :
    Calls Try.prog 38 #[.string s] w (PanicPost w) := by
  have h4 : (t : Int) < (s.size : Int) - 1 := by have := h3.out; have := ix_lt h2.out; omega
  go_enter Try.func38, Try.ntmps38
  go_wp2_with fail
  refine (zzindex_any s ⟨#[123]⟩ _ (by decide) (by omega) (by decide)).mono ?_
  rintro e w' ⟨rfl, rfl⟩
  rw [sx_one, h1.out]
  simp only [oi]
  go_wp2_with fail
  refine (zzindex_any s ⟨#[42]⟩ _ (by decide) (by omega) (by decide)).mono ?_
  rintro e w' ⟨rfl, rfl⟩
  rw [sx_one, h2.out]
  simp only [oi]
  go_wp2_with fail
  exact ⟨rfl, ⟨_, rfl⟩, Below.refl _ _⟩

set_option maxRecDepth 100000 in
set_option maxHeartbeats 2000000 in
theorem nd_C (s : ByteArray) (w : World) (o t : Nat) (hs : s.size ≤ 1000) (h1 : Hid (ix s 123 = some o)) (h2 : Hid (ix s 42 = some t)) (h3 : t < o) :
    Calls Try.prog 38 #[.string s] w (PanicPost w) := by
  go_enter Try.func38, Try.ntmps38
  go_wp2_with fail
  refine (zzindex_any s ⟨#[123]⟩ _ (by decide) (by omega) (by decide)).mono ?_
  rintro e w' ⟨rfl, rfl⟩
  rw [sx_one, h1.out]
  simp only [oi]
  go_wp2_with fail
  refine (zzindex_any s ⟨#[42]⟩ _ (by decide) (by omega) (by decide)).mono ?_
  rintro e w' ⟨rfl, rfl⟩
  rw [sx_one, h2.out]
  simp only [oi]
  go_wp2_with fail
  exact ⟨rfl, ⟨_, rfl⟩, Below.refl _ _⟩

set_option maxRecDepth 100000 in
set_option maxHeartbeats 4000000 in
theorem nd_D_none (s : ByteArray) (w : World) (o : Nat) (tw : Int) (hs : s.size ≤ 1000) (h1 : Hid (ix s 123 = some o)) (h2 : Hid (oi (ix s 42) = tw)) (h3 : tw < 0 ∨ (o : Int) ≤ tw) (h4 : Hid (shutAt s o = none)) :
    Calls Try.prog 38 #[.string s] w (PanicPost w) := by
  have hlt := ix_lt h1.out
  rcases h3 with h3 | h3
  all_goals
    go_enter Try.func38, Try.ntmps38
    go_wp2_with fail
    refine (zzindex_any s ⟨#[123]⟩ _ (by decide) (by omega) (by decide)).mono ?_
    rintro e w' ⟨rfl, rfl⟩
    rw [sx_one, h1.out]
    simp only [oi]
    go_wp2_with fail
    refine (zzindex_any s ⟨#[42]⟩ _ (by decide) (by omega) (by decide)).mono ?_
    rintro e w' ⟨rfl, rfl⟩
    rw [sx_one, h2.out]
    have p1 : (o : Int) ≤ (s.size : Int) := by omega
    try have p2 : decide (tw < (o : Int)) = false := decide_eq_false (by omega)
    go_wp2_with fail
    go_loopw [12, 13] (fun cc pe wr => ∃ (pos : Nat) (d : Int), wr.heap[w.heap.size]? = some (.stringIter (s.extract o s.size) pos) ∧ cc = .int .i64 d ∧ pe = .int .i64 o ∧ Hid (shutL (s.data.toList.drop (o + pos)) d (o + pos) = none) ∧ -(pos : Int) ≤ d ∧ d ≤ (pos : Int) ∧ pos ≤ (s.extract o s.size).size ∧ Below w.heap.size w wr) (fun _ _ wr => (s.extract o s.size).size - wr.iterPos w.heap.size)
    case atStart => exact ⟨0, 0, World.iter_heap w _ 0, rfl, rfl, h4, by omega, by omega, Nat.zero_le _, (Below.refl _ _).alloc (Nat.le_refl _) _⟩
    case round =>
      obtain ⟨pos, d, hit, rfl, rfl, hh, hd1, hd2, hps, hB⟩ := hrel
      have hpos0 := iterPos_of hit
      have hss := sub_size s o
      by_cases hp : pos < (s.extract o s.size).size
      · rcases step_of s o pos d hp with ⟨hdec, he⟩ | ⟨hdec, he⟩ | ⟨r, n, hdec, hr1, hr2, hn1, hn2, he⟩
        · have hnx : ∀ ty, (Instr.next (.pointer (some ⟨w.heap.size, 0, none⟩)) true ty).run Try.prog wr = .ok (.tuple #[.bool true, .int .i64 pos, .int .i32 123]) (wr.iterAt w.heap.size (s.extract o s.size) (pos + 1)) := fun ty => by
            have := Lib.run_next_any_at (P := Try.prog) wr w.heap.size (s.extract o s.size) pos ty hit hp
            rw [hdec] at this; exact this
          have hit2 := Lib.iterAt_heap wr w.heap.size _ pos (pos + 1) hit
          have hB2 := Lib.below_iterAt hB (k := w.heap.size) (Nat.le_refl _) (s.extract o s.size) (pos + 1)
          have HE := Lib.hid (he.symm.trans hh.out)
          generalize hW1 : wr.iterAt w.heap.size (s.extract o s.size) (pos + 1) = W1 at hnx hit2 hB2
          clear hit hB he hh hdec hW1
          go_wp2_with fail
          go_roundw
          case rel => exact ⟨pos + 1, d + 1, hit2, by go_num, rfl, HE, by omega, by omega, by omega, hB2⟩
          case measure => rw [iterPos_of hit2, hpos0]; omega
        · have hd0 : ¬ d - 1 = 0 := fun e => by rw [if_pos e, hh.out] at he; simp at he
          rw [if_neg hd0] at he
          have t0 : ((d - 1 : Int) == 0) = false := beq_eq_false_iff_ne.2 hd0
          have hnx : ∀ ty, (Instr.next (.pointer (some ⟨w.heap.size, 0, none⟩)) true ty).run Try.prog wr = .ok (.tuple #[.bool true, .int .i64 pos, .int .i32 125]) (wr.iterAt w.heap.size (s.extract o s.size) (pos + 1)) := fun ty => by
            have := Lib.run_next_any_at (P := Try.prog) wr w.heap.size (s.extract o s.size) pos ty hit hp
            rw [hdec] at this; exact this
          have hit2 := Lib.iterAt_heap wr w.heap.size _ pos (pos + 1) hit
          have hB2 := Lib.below_iterAt hB (k := w.heap.size) (Nat.le_refl _) (s.extract o s.size) (pos + 1)
          have HE := Lib.hid (he.symm.trans hh.out)
          generalize hW1 : wr.iterAt w.heap.size (s.extract o s.size) (pos + 1) = W1 at hnx hit2 hB2
          clear hit hB he hh hdec hW1 hd0
          go_wp2_with fail
          go_roundw
          case rel => exact ⟨pos + 1, d - 1, hit2, by go_num, rfl, HE, by omega, by omega, by omega, hB2⟩
          case measure => rw [iterPos_of hit2, hpos0]; omega
        · have hnx : ∀ ty, (Instr.next (.pointer (some ⟨w.heap.size, 0, none⟩)) true ty).run Try.prog wr = .ok (.tuple #[.bool true, .int .i64 pos, .int .i32 r]) (wr.iterAt w.heap.size (s.extract o s.size) (pos + n)) := fun ty => by
            have := Lib.run_next_any_at (P := Try.prog) wr w.heap.size (s.extract o s.size) pos ty hit hp
            rw [hdec] at this; exact this
          have t1 : ((r : Int) == 123) = false := beq_eq_false_iff_ne.2 (by omega)
          have t2 : ((r : Int) == 125) = false := beq_eq_false_iff_ne.2 (by omega)
          have hit2 := Lib.iterAt_heap wr w.heap.size _ pos (pos + n) hit
          have hB2 := Lib.below_iterAt hB (k := w.heap.size) (Nat.le_refl _) (s.extract o s.size) (pos + n)
          have HE := Lib.hid (he.symm.trans hh.out)
          generalize hW1 : wr.iterAt w.heap.size (s.extract o s.size) (pos + n) = W1 at hnx hit2 hB2
          clear hit hB he hh hdec hW1
          go_wp2_with fail
          go_roundw
          case rel => exact ⟨pos + n, d, hit2, rfl, rfl, HE, by omega, by omega, hn2, hB2⟩
          case measure => rw [iterPos_of hit2, hpos0]; omega
      · have hnx : ∀ ty, (Instr.next (.pointer (some ⟨w.heap.size, 0, none⟩)) true ty).run Try.prog wr = _ := fun ty => Lib.run_next_end_at wr w.heap.size (s.extract o s.size) pos ty hit hp
        clear hpos0 hit hss
        go_wp2_with fail
        exact ⟨rfl, ⟨_, rfl⟩, hB⟩

end Go.Proofs.Ytjcjdkgoegfhkaa.Seg
