/- The walk of chi.patNextSegment at a placeholder that closes: its part. Conditions: at most 1000 bytes. -/
import Derived.Test.YtjcjdkgoegfhkaaSegD
import Derived.Test.YtjcjdkgoegfhkaaSegE0
import Derived.Deep.Cut
namespace Go.Proofs.Ytjcjdkgoegfhkaa.Seg
open Go.RowKit

set_option maxRecDepth 100000 in
set_option maxHeartbeats 4000000 in
theorem nd_D_some (s : ByteArray) (w : World) (o e : Nat) (tw : Int) (hs : s.size ≤ 1000) (h1 : Hid (ix s 123 = some o)) (h2 : Hid (oi (ix s 42) = tw)) (h3 : tw < 0 ∨ (o : Int) ≤ tw) (h4 : Hid (shutAt s o = some e)) :
    Calls Try.prog 38 #[.string s] w (PartPost (partAt s o e) w) := by
  have hlt := ix_lt h1.out
  obtain ⟨hoe, hes⟩ := shutAt_range h1.out h4.out
  rcases h3 with h3 | h3
  all_goals
    go_enter Try.func38, Try.ntmps38
    go_wp2_with fail
    refine (zzindex_any s ⟨#[123]⟩ _ (by decide) (by omega) (by decide)).mono ?_
    rintro e w' ⟨rfl, rfl⟩
    rw [sx_one, h1.out]
    simp only [oi]
    go_wp2_with fail
    refine (zzindex_any s ⟨#[42]⟩ _ (by decide) (by omega) (by decide)).mono ?_
    rintro e w' ⟨rfl, rfl⟩
    rw [sx_one, h2.out]
    have p1 : (o : Int) ≤ (s.size : Int) := by omega
    try have p2 : decide (tw < (o : Int)) = false := decide_eq_false (by omega)
    go_wp2_with fail
    go_loopw [12, 13] (fun cc pe wr => ∃ (pos : Nat) (d : Int), wr.heap[w.heap.size]? = some (.stringIter (s.extract o s.size) pos) ∧ cc = .int .i64 d ∧ pe = .int .i64 o ∧ Hid (shutL (s.data.toList.drop (o + pos)) d (o + pos) = some e) ∧ -(pos : Int) ≤ d ∧ d ≤ (pos : Int) ∧ pos ≤ (s.extract o s.size).size ∧ Below w.heap.size w wr) (fun _ _ wr => (s.extract o s.size).size - wr.iterPos w.heap.size)
    case atStart => exact ⟨0, 0, World.iter_heap w _ 0, rfl, rfl, h4, by omega, by omega, Nat.zero_le _, (Below.refl _ _).alloc (Nat.le_refl _) _⟩
    case round =>
      obtain ⟨pos, d, hit, rfl, rfl, hh, hd1, hd2, hps, hB⟩ := hrel
      have hpos0 := iterPos_of hit
      have hss := sub_size s o
      by_cases hp : pos < (s.extract o s.size).size
      · rcases step_of s o pos d hp with ⟨hdec, he⟩ | ⟨hdec, he⟩ | ⟨r, n, hdec, hr1, hr2, hn1, hn2, he⟩
        · have hnx : ∀ ty, (Instr.next (.pointer (some ⟨w.heap.size, 0, none⟩)) true ty).run Try.prog wr = .ok (.tuple #[.bool true, .int .i64 pos, .int .i32 123]) (wr.iterAt w.heap.size (s.extract o s.size) (pos + 1)) := fun ty => by
            have := Lib.run_next_any_at (P := Try.prog) wr w.heap.size (s.extract o s.size) pos ty hit hp
            rw [hdec] at this; exact this
          have hit2 := Lib.iterAt_heap wr w.heap.size _ pos (pos + 1) hit
          have hB2 := Lib.below_iterAt hB (k := w.heap.size) (Nat.le_refl _) (s.extract o s.size) (pos + 1)
          have HE := Lib.hid (he.symm.trans hh.out)
          generalize hW1 : wr.iterAt w.heap.size (s.extract o s.size) (pos + 1) = W1 at hnx hit2 hB2
          clear hit hB he hh hdec hW1
          go_wp2_with fail
          go_roundw
          case rel => exact ⟨pos + 1, d + 1, hit2, by go_num, rfl, HE, by omega, by omega, by omega, hB2⟩
          case measure => rw [iterPos_of hit2, hpos0]; omega
        · have hnx : ∀ ty, (Instr.next (.pointer (some ⟨w.heap.size, 0, none⟩)) true ty).run Try.prog wr = .ok (.tuple #[.bool true, .int .i64 pos, .int .i32 125]) (wr.iterAt w.heap.size (s.extract o s.size) (pos + 1)) := fun ty => by
            have := Lib.run_next_any_at (P := Try.prog) wr w.heap.size (s.extract o s.size) pos ty hit hp
            rw [hdec] at this; exact this
          have hit2 := Lib.iterAt_heap wr w.heap.size _ pos (pos + 1) hit
          have hB2 := Lib.below_iterAt hB (k := w.heap.size) (Nat.le_refl _) (s.extract o s.size) (pos + 1)
          by_cases hd0 : d - 1 = 0
          · have t0 : ((d - 1 : Int) == 0) = true := beq_iff_eq.2 hd0
            rw [if_pos hd0, hh.out] at he
            obtain rfl : e = o + pos := by simpa using he
            generalize hW1 : wr.iterAt w.heap.size (s.extract o s.size) (pos + 1) = W1 at hnx hit2 hB2
            clear hit hB he hh hdec hW1 hd0
            have t3 : (((o : Int) + (pos : Int)) == (o : Int)) = false := beq_eq_false_iff_ne.2 (by omega)
            have k1 : (o : Int) + 1 ≤ (o : Int) + (pos : Int) := by omega
            have k2 : (o : Int) + (pos : Int) ≤ (s.size : Int) := by omega
            have k3 : (0 : Int) ≤ (o : Int) + (pos : Int) + 1 := by omega
            have k4 : (0 : Int) ≤ (o : Int) + 1 := by omega
            clear hpos0
            by_cases ht : o + pos + 1 < s.size
            · have HT := Lib.hid (tail_yes s (o + pos + 1) ht)
              have k5 : (o : Int) + (pos : Int) + 1 < (s.size : Int) := by omega
              go_wp2_with fail
              have hkb : (s.extract (o + 1) (o + pos)).size ≤ 1000 := by simp; omega
              cases hc : ix (s.extract (o + 1) (o + pos)) 58 with
              | none =>
                have HP := Lib.hid (show partAt s o (o + pos) = ⟨2, s.extract (o + 1) (o + pos), ⟨#[]⟩, tailOf s (o + pos + 1), o, ((o + pos : Nat) : Int) + 1⟩ by unfold partAt; rw [hc])
                refine (zzcut_none (s.extract (o + 1) (o + pos)) ⟨#[58]⟩ _ (by decide) (by omega) (by decide) ((sx_one _ _).trans hc)).mono ?_
                rintro e w' ⟨rfl, nq, rfl⟩
                clear hc
                go_wp2_with fail
                exact bodyPost_ret (v := .tuple #[.int .u8 2, .string (s.extract (o + 1) (o + pos)), .string ⟨#[]⟩, .int .u8 ((s[o + pos + 1]'ht).toNat : Int), .int .i64 o, .int .i64 ((o : Int) + (pos : Int) + 1)]) (by simp [results, Try.results38, go_sem]) rfl ⟨by rw [HP.out, HT.out]; simp, below_drewN hB2 _⟩
              | some c =>
                obtain ⟨kx, hkx⟩ : ∃ kx, (s.extract (o + 1) (o + pos)).extract 0 c = kx := ⟨_, rfl⟩
                obtain ⟨x, hx⟩ : ∃ x, (s.extract (o + 1) (o + pos)).extract (c + 1) (s.extract (o + 1) (o + pos)).size = x := ⟨_, rfl⟩
                have HP := Lib.hid (show partAt s o (o + pos) = ⟨1, kx, anch x, tailOf s (o + pos + 1), o, ((o + pos : Nat) : Int) + 1⟩ by unfold partAt; rw [hc]; simp only [hkx, hx])
                have hxs : x.size ≤ 1000 := by rw [← hx]; simp; omega
                have HC := fun w => zzcut_some (s.extract (o + 1) (o + pos)) ⟨#[58]⟩ w (by decide) (by omega) (by decide) c ((sx_one _ _).trans hc)
                rw [show (⟨#[58]⟩ : ByteArray).size = 1 from rfl, hkx, hx] at HC
                refine (HC _).mono ?_
                rintro e w' ⟨rfl, nq, rfl⟩
                clear hc hkx hx HC
                by_cases hx0 : x.size = 0
                · have HX := Lib.hid (anch_nil x hx0)
                  have q1 : (x.size : Int) ≤ 0 := by omega
                  clear hx0
                  go_wp2_with fail
                  exact bodyPost_ret (v := .tuple #[.int .u8 1, .string kx, .string x, .int .u8 ((s[o + pos + 1]'ht).toNat : Int), .int .i64 o, .int .i64 ((o : Int) + (pos : Int) + 1)]) (by simp [results, Try.results38, go_sem]) rfl ⟨by rw [HP.out, HT.out, HX.out]; simp, below_drewN hB2 _⟩
                · have q1 : 0 < x.size := by omega
                  have q2 : (0 : Int) < (x.size : Int) := by omega
                  clear hx0
                  by_cases hf : (x[0]'q1) = 94
                  · have HY := Lib.hid (front_yes x q1 hf)
                    have t4 : (((x[0]'q1).toNat : Int) != 94) = false := by rw [hf]; rfl
                    clear hf
                    have q3 : x.size - 1 < x.size := by omega
                    by_cases hl : (x[x.size - 1]'q3) = 36
                    · have HX := Lib.hid (anch_yes x x q1 HY.out.symm q3 hl)
                      have t5 : (((x[x.size - 1]'q3).toNat : Int) != 36) = false := by rw [hl]; rfl
                      clear hl
                      go_wp2_with fail
                      exact bodyPost_ret (v := .tuple #[.int .u8 1, .string kx, .string x, .int .u8 ((s[o + pos + 1]'ht).toNat : Int), .int .i64 o, .int .i64 ((o : Int) + (pos : Int) + 1)]) (by simp [results, Try.results38, go_sem]) rfl ⟨by rw [HP.out, HT.out, HX.out]; simp, below_drewN hB2 _⟩
                    · have HX := Lib.hid (anch_no x x q1 HY.out.symm q3 hl)
                      have t5 : (((x[x.size - 1]'q3).toNat : Int) != 36) = true := by
                        rw [bne_iff_ne]; intro q; exact hl (UInt8.toNat_inj.1 (show (x[x.size - 1]'q3).toNat = (36 : UInt8).toNat from by rw [show (36 : UInt8).toNat = 36 by decide]; omega))
                      clear hl
                      go_wp2_with fail
                      exact bodyPost_ret (v := .tuple #[.int .u8 1, .string kx, .string (x ++ ⟨#[36]⟩), .int .u8 ((s[o + pos + 1]'ht).toNat : Int), .int .i64 o, .int .i64 ((o : Int) + (pos : Int) + 1)]) (by simp [results, Try.results38, go_sem]) rfl ⟨by rw [HP.out, HT.out, HX.out]; simp, below_drewN hB2 _⟩
                  · have HY := Lib.hid (front_no x q1 hf)
                    have t4 : (((x[0]'q1).toNat : Int) != 94) = true := by
                      rw [bne_iff_ne]; intro q; exact hf (UInt8.toNat_inj.1 (show (x[0]'q1).toNat = (94 : UInt8).toNat from by rw [show (94 : UInt8).toNat = 94 by decide]; omega))
                    clear hf
                    go_upto_region 33 with (fail)
                    generalize hy : (⟨#[94]⟩ ++ x : ByteArray) = y
                    have hys : y.size ≤ 1001 := by rw [← hy, size94]; omega
                    have hy0 : 0 < y.size := by rw [← hy, size94]; omega
                    have HZ := Lib.hid (HY.out.trans hy)
                    clear hy
                    have q3 : y.size - 1 < y.size := by omega
                    by_cases hl : (y[y.size - 1]'q3) = 36
                    · have HX := Lib.hid (anch_yes x y q1 HZ.out.symm q3 hl)
                      have t5 : (((y[y.size - 1]'q3).toNat : Int) != 36) = false := by rw [hl]; rfl
                      clear hl
                      go_wp2_with fail
                      exact bodyPost_ret (v := .tuple #[.int .u8 1, .string kx, .string y, .int .u8 ((s[o + pos + 1]'ht).toNat : Int), .int .i64 o, .int .i64 ((o : Int) + (pos : Int) + 1)]) (by simp [results, Try.results38, go_sem]) rfl ⟨by rw [HP.out, HT.out, HX.out]; simp, below_drewN hB2 _⟩
                    · have HX := Lib.hid (anch_no x y q1 HZ.out.symm q3 hl)
                      have t5 : (((y[y.size - 1]'q3).toNat : Int) != 36) = true := by
                        rw [bne_iff_ne]; intro q; exact hl (UInt8.toNat_inj.1 (show (y[y.size - 1]'q3).toNat = (36 : UInt8).toNat from by rw [show (36 : UInt8).toNat = 36 by decide]; omega))
                      clear hl
                      go_wp2_with fail
                      exact bodyPost_ret (v := .tuple #[.int .u8 1, .string kx, .string (y ++ ⟨#[36]⟩), .int .u8 ((s[o + pos + 1]'ht).toNat : Int), .int .i64 o, .int .i64 ((o : Int) + (pos : Int) + 1)]) (by simp [results, Try.results38, go_sem]) rfl ⟨by rw [HP.out, HT.out, HX.out]; simp, below_drewN hB2 _⟩
            · have HT := Lib.hid (tail_no s (o + pos + 1) ht)
              have k5 : (s.size : Int) ≤ (o : Int) + (pos : Int) + 1 := by omega
              go_wp2_with fail
              have hkb : (s.extract (o + 1) (o + pos)).size ≤ 1000 := by simp; omega
              cases hc : ix (s.extract (o + 1) (o + pos)) 58 with
              | none =>
                have HP := Lib.hid (show partAt s o (o + pos) = ⟨2, s.extract (o + 1) (o + pos), ⟨#[]⟩, tailOf s (o + pos + 1), o, ((o + pos : Nat) : Int) + 1⟩ by unfold partAt; rw [hc])
                refine (zzcut_none (s.extract (o + 1) (o + pos)) ⟨#[58]⟩ _ (by decide) (by omega) (by decide) ((sx_one _ _).trans hc)).mono ?_
                rintro e w' ⟨rfl, nq, rfl⟩
                clear hc
                go_wp2_with fail
                exact bodyPost_ret (v := .tuple #[.int .u8 2, .string (s.extract (o + 1) (o + pos)), .string ⟨#[]⟩, .int .u8 47, .int .i64 o, .int .i64 ((o : Int) + (pos : Int) + 1)]) (by simp [results, Try.results38, go_sem]) rfl ⟨by rw [HP.out, HT.out]; simp, below_drewN hB2 _⟩
              | some c =>
                obtain ⟨kx, hkx⟩ : ∃ kx, (s.extract (o + 1) (o + pos)).extract 0 c = kx := ⟨_, rfl⟩
                obtain ⟨x, hx⟩ : ∃ x, (s.extract (o + 1) (o + pos)).extract (c + 1) (s.extract (o + 1) (o + pos)).size = x := ⟨_, rfl⟩
                have HP := Lib.hid (show partAt s o (o + pos) = ⟨1, kx, anch x, tailOf s (o + pos + 1), o, ((o + pos : Nat) : Int) + 1⟩ by unfold partAt; rw [hc]; simp only [hkx, hx])
                have hxs : x.size ≤ 1000 := by rw [← hx]; simp; omega
                have HC := fun w => zzcut_some (s.extract (o + 1) (o + pos)) ⟨#[58]⟩ w (by decide) (by omega) (by decide) c ((sx_one _ _).trans hc)
                rw [show (⟨#[58]⟩ : ByteArray).size = 1 from rfl, hkx, hx] at HC
                refine (HC _).mono ?_
                rintro e w' ⟨rfl, nq, rfl⟩
                clear hc hkx hx HC
                by_cases hx0 : x.size = 0
                · have HX := Lib.hid (anch_nil x hx0)
                  have q1 : (x.size : Int) ≤ 0 := by omega
                  clear hx0
                  go_wp2_with fail
                  exact bodyPost_ret (v := .tuple #[.int .u8 1, .string kx, .string x, .int .u8 47, .int .i64 o, .int .i64 ((o : Int) + (pos : Int) + 1)]) (by simp [results, Try.results38, go_sem]) rfl ⟨by rw [HP.out, HT.out, HX.out]; simp, below_drewN hB2 _⟩
                · have q1 : 0 < x.size := by omega
                  have q2 : (0 : Int) < (x.size : Int) := by omega
                  clear hx0
                  by_cases hf : (x[0]'q1) = 94
                  · have HY := Lib.hid (front_yes x q1 hf)
                    have t4 : (((x[0]'q1).toNat : Int) != 94) = false := by rw [hf]; rfl
                    clear hf
                    have q3 : x.size - 1 < x.size := by omega
                    by_cases hl : (x[x.size - 1]'q3) = 36
                    · have HX := Lib.hid (anch_yes x x q1 HY.out.symm q3 hl)
                      have t5 : (((x[x.size - 1]'q3).toNat : Int) != 36) = false := by rw [hl]; rfl
                      clear hl
                      go_wp2_with fail
                      exact bodyPost_ret (v := .tuple #[.int .u8 1, .string kx, .string x, .int .u8 47, .int .i64 o, .int .i64 ((o : Int) + (pos : Int) + 1)]) (by simp [results, Try.results38, go_sem]) rfl ⟨by rw [HP.out, HT.out, HX.out]; simp, below_drewN hB2 _⟩
                    · have HX := Lib.hid (anch_no x x q1 HY.out.symm q3 hl)
                      have t5 : (((x[x.size - 1]'q3).toNat : Int) != 36) = true := by
                        rw [bne_iff_ne]; intro q; exact hl (UInt8.toNat_inj.1 (show (x[x.size - 1]'q3).toNat = (36 : UInt8).toNat from by rw [show (36 : UInt8).toNat = 36 by decide]; omega))
                      clear hl
                      go_wp2_with fail
                      exact bodyPost_ret (v := .tuple #[.int .u8 1, .string kx, .string (x ++ ⟨#[36]⟩), .int .u8 47, .int .i64 o, .int .i64 ((o : Int) + (pos : Int) + 1)]) (by simp [results, Try.results38, go_sem]) rfl ⟨by rw [HP.out, HT.out, HX.out]; simp, below_drewN hB2 _⟩
                  · have HY := Lib.hid (front_no x q1 hf)
                    have t4 : (((x[0]'q1).toNat : Int) != 94) = true := by
                      rw [bne_iff_ne]; intro q; exact hf (UInt8.toNat_inj.1 (show (x[0]'q1).toNat = (94 : UInt8).toNat from by rw [show (94 : UInt8).toNat = 94 by decide]; omega))
                    clear hf
                    go_upto_region 33 with (fail)
                    generalize hy : (⟨#[94]⟩ ++ x : ByteArray) = y
                    have hys : y.size ≤ 1001 := by rw [← hy, size94]; omega
                    have hy0 : 0 < y.size := by rw [← hy, size94]; omega
                    have HZ := Lib.hid (HY.out.trans hy)
                    clear hy
                    have q3 : y.size - 1 < y.size := by omega
                    by_cases hl : (y[y.size - 1]'q3) = 36
                    · have HX := Lib.hid (anch_yes x y q1 HZ.out.symm q3 hl)
                      have t5 : (((y[y.size - 1]'q3).toNat : Int) != 36) = false := by rw [hl]; rfl
                      clear hl
                      go_wp2_with fail
                      exact bodyPost_ret (v := .tuple #[.int .u8 1, .string kx, .string y, .int .u8 47, .int .i64 o, .int .i64 ((o : Int) + (pos : Int) + 1)]) (by simp [results, Try.results38, go_sem]) rfl ⟨by rw [HP.out, HT.out, HX.out]; simp, below_drewN hB2 _⟩
                    · have HX := Lib.hid (anch_no x y q1 HZ.out.symm q3 hl)
                      have t5 : (((y[y.size - 1]'q3).toNat : Int) != 36) = true := by
                        rw [bne_iff_ne]; intro q; exact hl (UInt8.toNat_inj.1 (show (y[y.size - 1]'q3).toNat = (36 : UInt8).toNat from by rw [show (36 : UInt8).toNat = 36 by decide]; omega))
                      clear hl
                      go_wp2_with fail
                      exact bodyPost_ret (v := .tuple #[.int .u8 1, .string kx, .string (y ++ ⟨#[36]⟩), .int .u8 47, .int .i64 o, .int .i64 ((o : Int) + (pos : Int) + 1)]) (by simp [results, Try.results38, go_sem]) rfl ⟨by rw [HP.out, HT.out, HX.out]; simp, below_drewN hB2 _⟩
          · have t0 : ((d - 1 : Int) == 0) = false := beq_eq_false_iff_ne.2 hd0
            rw [if_neg hd0] at he
            have HE := Lib.hid (he.symm.trans hh.out)
            generalize hW1 : wr.iterAt w.heap.size (s.extract o s.size) (pos + 1) = W1 at hnx hit2 hB2
            clear hit hB he hh hdec hW1 hd0
            go_wp2_with fail
            go_roundw
            case rel => exact ⟨pos + 1, d - 1, hit2, by go_num, rfl, HE, by omega, by omega, by omega, hB2⟩
            case measure => rw [iterPos_of hit2, hpos0]; omega
        · have hnx : ∀ ty, (Instr.next (.pointer (some ⟨w.heap.size, 0, none⟩)) true ty).run Try.prog wr = .ok (.tuple #[.bool true, .int .i64 pos, .int .i32 r]) (wr.iterAt w.heap.size (s.extract o s.size) (pos + n)) := fun ty => by
            have := Lib.run_next_any_at (P := Try.prog) wr w.heap.size (s.extract o s.size) pos ty hit hp
            rw [hdec] at this; exact this
          have t1 : ((r : Int) == 123) = false := beq_eq_false_iff_ne.2 (by omega)
          have t2 : ((r : Int) == 125) = false := beq_eq_false_iff_ne.2 (by omega)
          have hit2 := Lib.iterAt_heap wr w.heap.size _ pos (pos + n) hit
          have hB2 := Lib.below_iterAt hB (k := w.heap.size) (Nat.le_refl _) (s.extract o s.size) (pos + n)
          have HE := Lib.hid (he.symm.trans hh.out)
          generalize hW1 : wr.iterAt w.heap.size (s.extract o s.size) (pos + n) = W1 at hnx hit2 hB2
          clear hit hB he hh hdec hW1
          go_wp2_with fail
          go_roundw
          case rel => exact ⟨pos + n, d, hit2, rfl, rfl, HE, by omega, by omega, hn2, hB2⟩
          case measure => rw [iterPos_of hit2, hpos0]; omega
      · exfalso
        have := hh.out
        rw [List.drop_eq_nil_of_le (by simp; omega)] at this
        simp [shutL] at this

end Go.Proofs.Ytjcjdkgoegfhkaa.Seg
