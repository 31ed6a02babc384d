/- The walk of chi.patParamKeys: the keys of a pattern, and a panic where it is refused. Conditions: at most 100 bytes. -/
import Derived.Test.YtjcjdkgoegfhkaaKeyA
import Derived.Test.YtjcjdkgoegfhkaaSegI
import Derived.Deep.AppendLies
import Derived.LoopTactic
namespace Go.Proofs.Ytjcjdkgoegfhkaa.Seg
open Go.RowKit

theorem info9 : (Try.prog.info? 9).map (fun i => (i.zero, i.size, i.bytes)) = some (some (.string ⟨#[]⟩), 1, 16) := by kernel_rfl

def strSize (v : Value) : Nat := match v with
  | .string s => s.size
  | _ => 0

/-- The elements of a slice of texts, read in a world. -/
def Rd (w : World) (a : Option Addr) (K : List ByteArray) : Prop := ∀ j, (hj : j < K.length) → ∃ b off, a = some ⟨b, off, none⟩ ∧ b < w.heap.size ∧ w.cell? ⟨b, off + j, none⟩ = some (.string K[j])

theorem own_shape {w : World} {base : Nat} {v : Value} {K : List ByteArray} (h : w.ownsRow base 9 1 v K.length (K.map Value.string)) : ∃ a c, v = .slice a K.length c ∧ Rd w a K := by
  rcases h.2 with ⟨e, e0⟩ | ⟨g, cap, cur, rfl, _⟩
  · exact ⟨none, 0, by rw [e, e0], fun j hj => by omega⟩
  · refine ⟨_, _, rfl, fun j hj => ⟨g, 0, rfl, (h.lt g rfl).2, ?_⟩⟩
    have := h.cells (g := g) rfl j (.string K[j]) (by simp [hj])
    rw [Go.WideShapes.add_plain] at this; exact this

def KeysPost (K : List ByteArray) (w : World) (e : Ending) (w' : World) : Prop := ∃ v, e = .returned v ∧ w'.ownsRow w.heap.size 9 1 v K.length (K.map Value.string) ∧ Below w.heap.size w w'

theorem hasKey_no {K : List ByteArray} {k : ByteArray} (h : ∀ j, (hj : j < K.length) → (K[j]).toList ≠ k.toList) : hasKey K k = false := by
  unfold hasKey
  rw [List.any_eq_false]
  intro x hx
  obtain ⟨j, hj, rfl⟩ := List.getElem_of_mem hx
  simpa using h j hj
theorem hasKey_yes {K : List ByteArray} {k : ByteArray} (j : Nat) (hj : j < K.length) (h : (K[j]).toList = k.toList) : hasKey K k = true := by
  unfold hasKey
  rw [List.any_eq_true]
  exact ⟨K[j], List.getElem_mem hj, by simpa using h⟩

theorem own_below {w w' : World} {base : Nat} {e : TypeId} {size n : Nat} {v : Value} {xs : List Value} (h : w.ownsRow base e size v n xs) (hB : Below w.heap.size w w') : w'.ownsRow base e size v n xs :=
  h.kept (row := none) ⟨hB.os, hB.tape, hB.output, hB.size, fun k hk _ => hB.block k hk⟩ (by cases v.ownBlock <;> simp)

/-- What the call comes to: the keys, or a panic. -/
def PpkPost (R : Option (List ByteArray)) (w : World) (e : Ending) (w' : World) : Prop := match R with
  | some K => KeysPost K w e w'
  | none => PanicPost w e w'

set_option maxRecDepth 100000 in
set_option maxHeartbeats 8000000 in
theorem ppk_any (s : ByteArray) (w : World) (hs : s.size ≤ 100) : Calls Try.prog 39 #[.string s] w (PpkPost (keysOf s) w) := by
  obtain ⟨i0, hi, hz0, hz1, hz2⟩ := info_parts info9
  obtain ⟨R, hR⟩ : ∃ R, keysOf s = R := ⟨_, rfl⟩
  rw [hR]
  have hstart := Lib.hid (show keyRun (s.size + 1) s [] = R from hR)
  clear hR
  go_enter Try.func39, Try.ntmps39
  go_wp2_with fail
  go_loopw [3, 4] (fun pv kv wr => ∃ (f : Nat) (t : ByteArray) (K : List ByteArray), pv = .string t ∧ t.size < f ∧ Hid (keyRun f t K = R) ∧ wr.ownsRow w.heap.size 9 1 kv K.length (K.map Value.string) ∧ K.length + t.size ≤ 100 ∧ Below w.heap.size w wr) (fun pv _ _ => strSize pv)
  case atStart => exact ⟨s.size + 1, s, [], rfl, by omega, hstart, World.ownsRow_made _ _ 0 (Nat.le_refl _) (by decide) rfl, by simpa using hs, (Below.refl _ _).alloc (Nat.le_refl _) _⟩
  case round =>
    obtain ⟨f, t, K, rfl, hf, hrun, hown, hKt, hB⟩ := hrel
    obtain ⟨f, rfl⟩ : ∃ f', f = f' + 1 := ⟨f - 1, by omega⟩
    cases hg : segOf t with
    | none =>
      have HC := fun w => Lib.hid (nd_none t w (by omega) hg)
      have HR := Lib.hid (show R = none by rw [← hrun.out, keyRun, hg])
      clear hg
      go_wp2_with fail
      refine (HC _).out.mono ?_
      rintro e w1 ⟨⟨v, rfl⟩, hB1⟩
      go_wp2_with fail
      refine ⟨rfl, ?_⟩
      rw [HR.out]
      exact ⟨⟨_, rfl⟩, hB.trans (hB1.mono hB.size)⟩
    | some p =>
      have HC := fun w => Lib.hid (nd_some t w (by omega) p hg)
      have hpl := seg_places hg
      obtain ⟨pk, pkey, px, pt, pf, pto⟩ := p
      dsimp only at hpl
      by_cases hk : pk = 0
      · have HR := Lib.hid (show R = some K by rw [← hrun.out, keyRun, hg]; simp [hk])
        have t1 : (pk == 0) = true := beq_iff_eq.2 hk
        clear hg hk hpl
        go_wp2_with fail
        refine (HC _).out.mono ?_
        rintro e w1 ⟨rfl, hB1⟩
        have hown1 := own_below hown hB1
        go_wp2_with fail
        go_ret
        rw [HR.out]
        exact ⟨_, rfl, hown1, hB.trans (hB1.mono hB.size)⟩
      · obtain ⟨_, hf0, hft, hfs⟩ := hpl.resolve_left (fun h => hk h.1)
        obtain ⟨n, rfl⟩ : ∃ n : Nat, pto = n := ⟨pto.toNat, by omega⟩
        have HR := Lib.hid (show (if hasKey K pkey then none else keyRun f (t.extract n t.size) (K ++ [pkey])) = R by rw [← hrun.out, keyRun, hg]; simp [hk])
        have t1 : (pk == 0) = false := beq_eq_false_iff_ne.2 hk
        clear hg hk hpl hrun
        go_wp2_with fail
        refine (HC _).out.mono ?_
        rintro e w1 ⟨rfl, hB1⟩
        have hown1 := own_below hown hB1
        have hB2 := hB.trans (hB1.mono hB.size)
        obtain ⟨a, c, rfl, hrd⟩ := own_shape hown1
        have hKl : K.length ≤ 100 := by omega
        clear hown hB1 hB
        go_wp2_with fail
        go_loop [11] (fun iv => ∃ i : Nat, i ≤ K.length ∧ iv = .int .i64 i ∧ Hid (∀ j, (hj : j < K.length) → j < i → (K[j]).toList ≠ pkey.toList)) (fun iv => K.length - (intOf iv).toNat)
        case atStart => exact ⟨0, Nat.zero_le _, rfl, Lib.hid (fun j hj h => by omega)⟩
        case round =>
          obtain ⟨i, hik, rfl, hno⟩ := hrel
          by_cases hlt : i < K.length
          · obtain ⟨b1, o1, rfl, hb1, hc1⟩ := hrd i hlt
            have hi1 : (i : Int) < (K.length : Int) := by omega
            have hi0 : (0 : Int) ≤ (i : Int) := by omega
            clear hrd
            by_cases he : (K[i]).toList = pkey.toList
            · have t2 : ((K[i]).toList == pkey.toList) = true := by rw [he]; simp
              have HR2 := Lib.hid (show R = none by rw [← HR.out, if_pos (hasKey_yes i hlt he)])
              clear he hno
              go_wp2_with fail
              refine ⟨rfl, ?_⟩
              rw [HR2.out]
              exact ⟨⟨_, rfl⟩, hB2⟩
            · have t2 : ((K[i]).toList == pkey.toList) = false := by simpa using he
              have HN := Lib.hid (show ∀ j, (hj : j < K.length) → j < i + 1 → (K[j]).toList ≠ pkey.toList from fun j hj h => by
                by_cases e : j = i
                · subst e; exact he
                · exact hno.out j hj (by omega))
              clear he hno
              go_wp2_with fail
              go_round
              case rel => exact ⟨i + 1, by omega, by go_num, HN⟩
              case measure => simp [intOf]; omega
          · obtain rfl : i = K.length := by omega
            have HR2 := Lib.hid (show keyRun f (t.extract n t.size) (K ++ [pkey]) = R by
              rw [← HR.out, hasKey_no (fun j hj => hno.out j hj hj)]; rfl)
            have k1 : (0 : Int) ≤ (n : Int) := by omega
            have k2 : (n : Int) ≤ (t.size : Int) := by omega
            have hm1 : K.length + 1 ≤ maxLen := by unfold maxLen; omega
            have hbw := hB2.size
            clear hrd hno
            go_wp2_with (first | (at_builtin; refine wpList_append_own _ rfl _ _ 22 rfl w.heap.size 9 i0 (.string ⟨#[]⟩) 1 16 Try.underlying22 hi hz0 hz1 hz2 rfl (by decide) _ _ _ rfl (hown1.alloc _) ⟨w1.heap.size, 0, none⟩ 1 1 [.string pkey] rfl rfl (cell_one_new _ _ _) (by simp [Value.oneCell']) hm1 (by omega) (by rw [World.size_alloc]; omega) ?_; intro v' w2 hown2 hgrow2 _))
            have hB3 : Below w.heap.size w w2 := Below.grown (hB2.alloc hbw _) hgrow2 (by rw [World.size_alloc]; omega) (fun q e => (hown1.lt q e).1)
            have hown3 : w2.ownsRow w.heap.size 9 1 v' (K ++ [pkey]).length ((K ++ [pkey]).map Value.string) := by simpa using hown2
            have hsz : (t.extract n t.size).size = t.size - n := by simp
            clear hown2 hgrow2 hown1
            go_wp2_with fail
            go_roundw
            case rel => exact ⟨f, t.extract n t.size, K ++ [pkey], rfl, by omega, HR2, hown3, by rw [List.length_append]; simp only [List.length_cons, List.length_nil]; omega, hB3⟩
            case measure => simp only [strSize]; show (t.extract n t.size).size < t.size; omega

end Go.Proofs.Ytjcjdkgoegfhkaa.Seg
