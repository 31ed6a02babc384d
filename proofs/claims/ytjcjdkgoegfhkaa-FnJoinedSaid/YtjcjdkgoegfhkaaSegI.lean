/- chi.ZZSegment and impl.Segment: the part, or false where chi refuses by a panic that is recovered. Conditions: at most 1000 bytes. -/
import Derived.Test.YtjcjdkgoegfhkaaSegE
import Derived.Test.YtjcjdkgoegfhkaaSegH
import Derived.Defers
import Derived.Recover
namespace Go.Proofs.Ytjcjdkgoegfhkaa.Seg
open Go.RowKit

theorem nd_some (s : ByteArray) (w : World) (hs : s.size ≤ 1000) (p : Part) (h : segOf s = some p) : Calls Try.prog 38 #[.string s] w (PartPost p w) := by
  have hw := way_of s
  rw [h] at hw
  cases hw with
  | plain h1 h2 => exact nd_A s w hs (Lib.hid h1) (Lib.hid h2)
  | rest t h1 h2 h3 => exact nd_B s w t hs (Lib.hid h1) (Lib.hid h2) (Lib.hid h3)
  | shut o e h1 h3 h4 => exact nd_D_some s w o e _ hs (Lib.hid h1) (Lib.hid rfl) h3 (Lib.hid h4)

theorem nd_none (s : ByteArray) (w : World) (hs : s.size ≤ 1000) (h : segOf s = none) : Calls Try.prog 38 #[.string s] w (PanicPost w) := by
  have hw := way_of s
  rw [h] at hw
  cases hw with
  | rest_no t h1 h2 h3 => exact nd_B_no s w t hs (Lib.hid h1) (Lib.hid h2) (Lib.hid h3)
  | star o t h1 h2 h3 => exact nd_C s w o t hs (Lib.hid h1) (Lib.hid h2) h3
  | open_ o h1 h3 h4 => exact nd_D_none s w o _ hs (Lib.hid h1) (Lib.hid rfl) h3 (Lib.hid h4)

theorem partAt_kind (s : ByteArray) (o e : Nat) : 0 ≤ (partAt s o e).kind ∧ (partAt s o e).kind ≤ 3 := by
  unfold partAt
  cases ix (s.extract (o + 1) e) 58 <;> exact ⟨by dsimp only; omega, by dsimp only; omega⟩

theorem seg_kind {s : ByteArray} {p : Part} (h : segOf s = some p) : 0 ≤ p.kind ∧ p.kind ≤ 3 := by
  have hw := way_of s
  rw [h] at hw
  cases hw with
  | plain h1 h2 => exact ⟨by dsimp only; omega, by dsimp only; omega⟩
  | rest t h1 h2 h3 => exact ⟨by dsimp only; omega, by dsimp only; omega⟩
  | shut o e h1 h3 h4 => exact partAt_kind s o e

def ZPost (p : Part) (w : World) (e : Ending) (w' : World) : Prop := e = .returned (.tuple #[.int .i64 p.kind, .string p.key, .string p.expr, .int .u8 p.tail, .int .i64 p.frm, .int .i64 p.til]) ∧ Below w.heap.size w w'

set_option maxHeartbeats 1000000 in
theorem zs_some (s : ByteArray) (w : World) (hs : s.size ≤ 1000) (p : Part) (h : segOf s = some p) : Calls Try.prog 24 #[.string s] w (ZPost p w) := by
  have hc := nd_some s w hs p h
  obtain ⟨hk1, hk2⟩ := seg_kind h
  have HC := Lib.hid hc
  clear hc h
  obtain ⟨pk, pkey, px, pt, pf, pto⟩ := p
  dsimp only at hk1 hk2
  go_enter Try.func24, Try.ntmps24
  go_wp2_with fail
  refine HC.out.mono ?_
  rintro e w' ⟨rfl, hB⟩
  go_wp2_with fail
  exact bodyPost_ret (v := .tuple #[.int .i64 pk, .string pkey, .string px, .int .u8 pt, .int .i64 pf, .int .i64 pto]) (by simp [results, Try.results24, go_sem]) rfl ⟨rfl, hB⟩

theorem zs_none (s : ByteArray) (w : World) (hs : s.size ≤ 1000) (h : segOf s = none) : Calls Try.prog 24 #[.string s] w (PanicPost w) := by
  have HC := Lib.hid (nd_none s w hs h)
  clear h
  go_enter Try.func24, Try.ntmps24
  go_wp2_with fail
  refine HC.out.mono ?_
  rintro e w' ⟨⟨v, rfl⟩, hB⟩
  go_wp2_with fail
  exact ⟨rfl, ⟨_, rfl⟩, hB⟩

theorem catch_idle (p q : Addr) (w : World) :
    CallsD Try.prog 23 #[.pointer (some p), .pointer (some q)] .returning w fun e u' w' => e = .returned (.tuple #[]) ∧ u' = .returning ∧ w' = w := by
  refine callsD_of_wpS Try.func23 rfl fun c₀ cs hu => ?_
  apply wpS_seq
  apply wpS_region
  simp [wpOpsS, go_sem, recoverD, hu, Try.ntmps23, Exit.thenS]
  refine wpS_cond (t := false) (by simp [Act.eval, Array.replicate]) ?_
  simp only [Bool.false_eq_true, if_false]
  refine wpS_of_wp (wp_skip ?_)
  cases c₀
  simp_all [bodyPostS, results, Try.results23]

theorem catch_panicking (b : Nat) (u : TypeId) (pv : Value) (older : List PanicEntry) (w : World)
    (h0 : w.cell? ⟨b, 0, none⟩ = some (.int .i64 0)) (h1 : w.cell? ⟨b, 1, none⟩ = some (.string ⟨#[]⟩)) (h2 : w.cell? ⟨b, 2, none⟩ = some (.string ⟨#[]⟩)) (h3 : w.cell? ⟨b, 3, none⟩ = some (.int .u8 0)) (h4 : w.cell? ⟨b, 4, none⟩ = some (.int .i64 0)) (h5 : w.cell? ⟨b, 5, none⟩ = some (.int .i64 0))
    (f0 : w.frozen? ⟨b, 0, none⟩ = false) (f1 : w.frozen? ⟨b, 1, none⟩ = false) (f2 : w.frozen? ⟨b, 2, none⟩ = false) (f3 : w.frozen? ⟨b, 3, none⟩ = false) (f4 : w.frozen? ⟨b, 4, none⟩ = false) (f5 : w.frozen? ⟨b, 5, none⟩ = false)
    (g0 : w.cell? ⟨b + 1, 0, none⟩ = some (.bool false)) (g1 : w.frozen? ⟨b + 1, 0, none⟩ = false) :
    CallsD Try.prog 23 #[.pointer (some ⟨b, 0, none⟩), .pointer (some ⟨b + 1, 0, none⟩)] (.panicking ({ v := .iface u pv, recovered := false } :: older)) w fun e u' w' =>
      e = .returned (.tuple #[]) ∧ u' = .panicking ({ v := .iface u pv, recovered := true } :: older) ∧ w' = ((((((w.setCell ⟨b, 0, none⟩ (.int .i64 0)).setCell ⟨b, 1, none⟩ (.string ⟨#[]⟩)).setCell ⟨b, 2, none⟩ (.string ⟨#[]⟩)).setCell ⟨b, 3, none⟩ (.int .u8 0)).setCell ⟨b, 4, none⟩ (.int .i64 0)).setCell ⟨b, 5, none⟩ (.int .i64 0)).setCell ⟨b + 1, 0, none⟩ (.bool false) := by
  refine callsD_of_wpS Try.func23 rfl fun c₀ cs hu => ?_
  apply wpS_seq
  apply wpS_region
  simp [wpOpsS, go_sem, recoverD, hu, Try.ntmps23, Exit.thenS]
  refine wpS_cond (t := true) (by simp [Act.eval, Array.replicate]) ?_
  simp only [if_true]
  apply wpS_region
  simp [wpOpsS, go_sem, h0, h1, h2, h3, h4, h5, f0, f1, f2, f3, f4, f5, g0, g1, bodyPostS, results, Try.results23]

def SegPost (p : Part) (ok : Bool) (w : World) (e : Ending) (w' : World) : Prop := e = .returned (.tuple #[p.val, .bool ok]) ∧ Below w.heap.size w w'

set_option maxRecDepth 100000 in
set_option maxHeartbeats 2000000 in
theorem segment_none (s : ByteArray) (w : World) (hs : s.size ≤ 1000) (h : segOf s = none) : Calls Try.prog 10 #[.string s] w (SegPost part0 false w) := by
  have HC := fun w => Lib.hid (zs_none s w hs h)
  clear h
  have hmf : ∀ (fn : Fn) (first cap : Array Value) (w : World), (Instr.makeFunc fn first cap).run Try.prog w = .ok (.func fn first cap) w := fun _ _ _ _ => rfl
  go_enter_defers Try.func10, Try.ntmps10
  go_wp2_with fail
  refine (HC _).out.mono ?_
  rintro e w' ⟨⟨v, rfl⟩, hB⟩
  have c0 := hB.cell (p := ⟨w.heap.size, 0, none⟩) (by simp; omega)
  have c1 := hB.cell (p := ⟨w.heap.size, 1, none⟩) (by simp; omega)
  have c2 := hB.cell (p := ⟨w.heap.size, 2, none⟩) (by simp; omega)
  have c3 := hB.cell (p := ⟨w.heap.size, 3, none⟩) (by simp; omega)
  have c4 := hB.cell (p := ⟨w.heap.size, 4, none⟩) (by simp; omega)
  have c5 := hB.cell (p := ⟨w.heap.size, 5, none⟩) (by simp; omega)
  have d0 := hB.cell (p := ⟨w.heap.size + 1, 0, none⟩) (by simp)
  have f0 := hB.frozen (p := ⟨w.heap.size, 0, none⟩) (by simp; omega)
  have f1 := hB.frozen (p := ⟨w.heap.size, 1, none⟩) (by simp; omega)
  have f2 := hB.frozen (p := ⟨w.heap.size, 2, none⟩) (by simp; omega)
  have f3 := hB.frozen (p := ⟨w.heap.size, 3, none⟩) (by simp; omega)
  have f4 := hB.frozen (p := ⟨w.heap.size, 4, none⟩) (by simp; omega)
  have f5 := hB.frozen (p := ⟨w.heap.size, 5, none⟩) (by simp; omega)
  have g0 := hB.frozen (p := ⟨w.heap.size + 1, 0, none⟩) (by simp)
  simp at c0 c1 c2 c3 c4 c5 d0 f0 f1 f2 f3 f4 f5 g0
  go_wp2_with fail
  refine leaves_cons (f := 23) (args := #[.pointer (some ⟨w.heap.size, 0, none⟩), .pointer (some ⟨w.heap.size + 1, 0, none⟩)]) (by simp) (by simp [go_sem]) ?_
  refine (catch_panicking w.heap.size 9 (.string v) [] _ c0 c1 c2 c3 c4 c5 f0 f1 f2 f3 f4 f5 d0 g0).mono ?_
  rintro e u' w'' ⟨rfl, rfl, rfl⟩
  have hB2 : Below w.heap.size w w' := (((Below.refl _ w).alloc (Nat.le_refl _) _).alloc (by simp) _).trans (hB.mono (by simp; omega))
  have hB3 := ((((((hB2.setCell (p := ⟨w.heap.size, 0, none⟩) (Nat.le_refl _) (.int .i64 0)).setCell (p := ⟨w.heap.size, 1, none⟩) (Nat.le_refl _) (.string ⟨#[]⟩)).setCell (p := ⟨w.heap.size, 2, none⟩) (Nat.le_refl _) (.string ⟨#[]⟩)).setCell (p := ⟨w.heap.size, 3, none⟩) (Nat.le_refl _) (.int .u8 0)).setCell (p := ⟨w.heap.size, 4, none⟩) (Nat.le_refl _) (.int .i64 0)).setCell (p := ⟨w.heap.size, 5, none⟩) (Nat.le_refl _) (.int .i64 0)).setCell (p := ⟨w.heap.size + 1, 0, none⟩) (by simp) (.bool false)
  simp [Leaves, settle, results, Try.results10, go_sem, c0, c1, c2, c3, c4, c5, d0]
  exact ⟨rfl, hB3⟩

set_option maxRecDepth 100000 in
set_option maxHeartbeats 2000000 in
theorem segment_some (s : ByteArray) (w : World) (hs : s.size ≤ 1000) (p : Part) (h : segOf s = some p) : Calls Try.prog 10 #[.string s] w (SegPost p true w) := by
  have HC := fun w => Lib.hid (zs_some s w hs p h)
  clear h
  obtain ⟨pk, pkey, px, pt, pf, pto⟩ := p
  have hmf : ∀ (fn : Fn) (first cap : Array Value) (w : World), (Instr.makeFunc fn first cap).run Try.prog w = .ok (.func fn first cap) w := fun _ _ _ _ => rfl
  go_enter_defers Try.func10, Try.ntmps10
  go_wp2_with fail
  refine (HC _).out.mono ?_
  rintro e w' ⟨rfl, hB⟩
  have c0 := hB.cell (p := ⟨w.heap.size, 0, none⟩) (by simp; omega)
  have c1 := hB.cell (p := ⟨w.heap.size, 1, none⟩) (by simp; omega)
  have c2 := hB.cell (p := ⟨w.heap.size, 2, none⟩) (by simp; omega)
  have c3 := hB.cell (p := ⟨w.heap.size, 3, none⟩) (by simp; omega)
  have c4 := hB.cell (p := ⟨w.heap.size, 4, none⟩) (by simp; omega)
  have c5 := hB.cell (p := ⟨w.heap.size, 5, none⟩) (by simp; omega)
  have d0 := hB.cell (p := ⟨w.heap.size + 1, 0, none⟩) (by simp)
  have f0 := hB.frozen (p := ⟨w.heap.size, 0, none⟩) (by simp; omega)
  have f1 := hB.frozen (p := ⟨w.heap.size, 1, none⟩) (by simp; omega)
  have f2 := hB.frozen (p := ⟨w.heap.size, 2, none⟩) (by simp; omega)
  have f3 := hB.frozen (p := ⟨w.heap.size, 3, none⟩) (by simp; omega)
  have f4 := hB.frozen (p := ⟨w.heap.size, 4, none⟩) (by simp; omega)
  have f5 := hB.frozen (p := ⟨w.heap.size, 5, none⟩) (by simp; omega)
  have g0 := hB.frozen (p := ⟨w.heap.size + 1, 0, none⟩) (by simp)
  simp at c0 c1 c2 c3 c4 c5 d0 f0 f1 f2 f3 f4 f5 g0
  have hB2 : Below w.heap.size w w' := (((Below.refl _ w).alloc (Nat.le_refl _) _).alloc (by simp) _).trans (hB.mono (by simp; omega))
  go_wp2_with fail
  refine leaves_cons (f := 23) (args := #[.pointer (some ⟨w.heap.size, 0, none⟩), .pointer (some ⟨w.heap.size + 1, 0, none⟩)]) (by simp) (by simp [go_sem]) ?_
  refine (catch_idle ⟨w.heap.size, 0, none⟩ ⟨w.heap.size + 1, 0, none⟩ _).mono ?_
  rintro e u' w'' ⟨rfl, rfl, rfl⟩
  have hB3 := ((((((hB2.setCell (p := ⟨w.heap.size, 0, none⟩) (Nat.le_refl _) (.int .i64 pk)).setCell (p := ⟨w.heap.size, 1, none⟩) (Nat.le_refl _) (.string pkey)).setCell (p := ⟨w.heap.size, 2, none⟩) (Nat.le_refl _) (.string px)).setCell (p := ⟨w.heap.size, 3, none⟩) (Nat.le_refl _) (.int .u8 pt)).setCell (p := ⟨w.heap.size, 4, none⟩) (Nat.le_refl _) (.int .i64 pf)).setCell (p := ⟨w.heap.size, 5, none⟩) (Nat.le_refl _) (.int .i64 pto)).setCell (p := ⟨w.heap.size + 1, 0, none⟩) (by simp) (.bool true)
  simp [Leaves, settle, results, Try.results10, go_sem, c0, c1, c2, c3, c4, c5, d0]
  exact ⟨rfl, hB3⟩

end Go.Proofs.Ytjcjdkgoegfhkaa.Seg
