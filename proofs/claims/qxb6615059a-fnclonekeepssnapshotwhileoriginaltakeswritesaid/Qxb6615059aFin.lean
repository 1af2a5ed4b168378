/-
  What the end of the law is handed.
-/
import Derived.Test.Qxb6615059aState
import Derived.Stop.BytesEq
namespace Go.Proofs.Qxb6615059a
open Go.RowKit Go.Maps
set_option linter.unusedVariables false

theorem own_below {w w' : World} {R : Value → Option (DataW Unit × List MemPlace)} {b n : Nat} {D : DataW Unit} (h : w.ownsMap Try.prog 9 R b n D) (hb : Below w.heap.size w w') : w'.ownsMap Try.prog 9 R b n D := by
  obtain ⟨es, clock, he, r⟩ := h
  have hlt : b < w.heap.size := (Array.getElem?_eq_some_iff.1 he).1
  exact ⟨es, clock, by rw [hb.block b hlt]; exact he, r⟩
theorem own_lt {w : World} {R : Value → Option (DataW Unit × List MemPlace)} {b n : Nat} {D : DataW Unit} (h : w.ownsMap Try.prog 9 R b n D) : b < w.heap.size := by
  obtain ⟨es, clock, he, r⟩ := h
  exact (Array.getElem?_eq_some_iff.1 he).1
theorem own_grown {w w' : World} {R : Value → Option (DataW Unit × List MemPlace)} {b n g : Nat} {D : DataW Unit} (h : w.ownsMap Try.prog 9 R b n D) (hg : w.grownBy w' (some g)) (hne : b ≠ g) : w'.ownsMap Try.prog 9 R b n D := by
  have hlt := own_lt h
  obtain ⟨es, clock, he, r⟩ := h
  exact ⟨es, clock, by rw [hg.block b hlt (fun e => hne (by injection e))]; exact he, r⟩

theorem isMap_DD (ks : Nat → ByteArray) (cs : Nat → DataW Unit) : ∀ k, IsMap (DD ks cs k)
  | 0 => ⟨[], rfl⟩
  | k + 1 => by
    obtain ⟨es, he⟩ := isMap_DD ks cs k
    simp only [DD]
    rw [he]
    exact ⟨_, rfl⟩
theorem has_DD (ks : Nat → ByteArray) (cs : Nat → DataW Unit) : ∀ k j, j < k → Maps.has (DD ks cs k) (kl (ks j)) = true
  | 0, j, h => absurd h (by omega)
  | k + 1, j, h => by
    simp only [DD]
    by_cases e : kl (ks j) = kl (ks k)
    · rw [e]; exact has_put_same (isMap_DD ks cs k) (show WideAt.IsKeyLit (.string _) from trivial) _
    · rw [has_put_other e]
      refine has_DD ks cs k j ?_
      rcases Nat.lt_succ_iff_lt_or_eq.1 h with h1 | h1
      · exact h1
      · exact absurd (by rw [h1]) e

theorem contZ_inj {a1 a2 : Option Addr} {z1 z2 : List Int} (h : contZ a1 z1 = contZ a2 z2) (h1 : a1 = none → z1 = []) (h2 : a2 = none → z2 = []) : a1.isNone = a2.isNone ∧ z1 = z2 := by
  have inj : ∀ l l' : List Int, (l.map fun z => (DataW.lit (.int .u8 z) : DataW Unit)) = l'.map (fun z => .lit (.int .u8 z)) → l = l' := by
    intro l
    induction l with
    | nil => intro l' h; cases l' with | nil => rfl | cons _ _ => simp at h
    | cons x l ih =>
      intro l' h
      cases l' with
      | nil => simp at h
      | cons y l' =>
        simp only [List.map_cons, List.cons.injEq, DataW.lit.injEq, Lit.int.injEq, true_and] at h
        rw [h.1, ih l' h.2]
  unfold contZ at h
  cases a1 with
  | none =>
    cases a2 with
    | none => exact ⟨rfl, by rw [h1 rfl, h2 rfl]⟩
    | some x => simp at h
  | some x =>
    cases a2 with
    | none => simp at h
    | some y =>
      simp only [reduceCtorEq, if_false] at h
      injection h with h
      exact ⟨rfl, inj _ _ h⟩

theorem zero25 (w : World) : (zeroValue 25).run Try.prog w = .ok (.slice none 0 0) w := by kernel_rfl
theorem RR_zero (w : World) : RR w (.slice none 0 0) = some (.nil, []) := rfl
theorem size5r (w : World) : (sizeOf 5).run Try.prog w = .ok 1 w := by kernel_rfl
theorem eql24 (xs : List UInt8) (hx : xs.length = 32) (w : World) : (binOp .eql 24 (.agg (xs.map Extern.Stop.cell).toArray) (.agg (xs.map Extern.Stop.cell).toArray)).run Try.prog w = .ok (.bool true) w := by
  rw [run_eql_bytes w 24 5 32 Try.underlying24 Try.underlying5 size5r xs xs hx hx]
  simp

/-- what stands ahead of the last loop -/
structure Fin (w w4 w9 : World) (g0 gc gm gw g3 m : Nat) (n : Int) (cs : List Value) (ks : Nat → ByteArray) (va : Nat → Option Addr) (zs : Nat → List Int) (vc : Nat → Nat) (D : DataW Unit) : Prop where
  bel : Below w.heap.size w w9
  box : w9.rangeAt g0 0 cs
  st : ST w9 gc (some gm) n cs
  cm : w9.ownsMap Try.prog 9 (RR w4) gm m D
  wt : w9.ownsMap Try.prog 9 (RR w4) gw m D
  b4 : Below w4.heap.size w4 w9
  pw : PIn w9 (some ⟨g3, 0, none⟩) m ks va zs vc
  hs : ∀ j, j < m → Maps.has D (kl (ks j)) = true
theorem Fin.below {w w4 w9 w' : World} {g0 gc gm gw g3 m : Nat} {n : Int} {cs : List Value} {ks : Nat → ByteArray} {va : Nat → Option Addr} {zs : Nat → List Int} {vc : Nat → Nat} {D : DataW Unit} (h : Fin w w4 w9 g0 gc gm gw g3 m n cs ks va zs vc D) (hb : Below w9.heap.size w9 w') : Fin w w4 w' g0 gc gm gw g3 m n cs ks va zs vc D :=
  ⟨h.bel.trans (hb.mono h.bel.size), fun j v hv => below_cell hb (h.box j v hv), h.st.below hb, own_below h.cm hb, own_below h.wt hb, h.b4.trans (hb.mono h.b4.size), h.pw.below hb, h.hs⟩

/-- the two look-ups of a round -/
theorem Fin.look {w w4 w9 : World} {g0 gc gm gw g3 m : Nat} {n : Int} {cs : List Value} {ks : Nat → ByteArray} {va : Nat → Option Addr} {zs : Nat → List Int} {vc : Nat → Nat} {D : DataW Unit} (h : Fin w w4 w9 g0 gc gm gw g3 m n cs ks va zs vc D) {i : Nat} (hi : i < m) :
    ∃ a1 a2 c1 c2 z, (Instr.lookup 30 (.map (some gm)) (.string (ks i)) true).run Try.prog w9 = .ok (.tuple #[.slice a1 z.length c1, .bool true]) w9 ∧ (Instr.lookup 30 (.map (some gw)) (.string (ks i)) false).run Try.prog w9 = .ok (.slice a2 z.length c2) w9 ∧
      Ints .u8 w4 a1 z ∧ Ints .u8 w4 a2 z ∧ a1.isNone = a2.isNone ∧ z.length ≤ 1048576 := by
  have hk := key_of (h.pw.kl i hi)
  obtain ⟨v1, p1, r1, e1⟩ := h.cm.look_ok law Try.underlying30 (zero25 w9) (RR_zero w4) hk
  obtain ⟨v2, p2, r2, e2⟩ := h.wt.lookup law Try.underlying30 (zero25 w9) (RR_zero w4) hk
  obtain ⟨a1, z1, c1, rfl, i1, n1, l1, d1⟩ := RR_inv e1
  obtain ⟨a2, z2, c2, rfl, i2, n2, l2, d2⟩ := RR_inv e2
  obtain ⟨hn, hz⟩ := contZ_inj (d1.symm.trans d2) n1 n2
  subst hz
  rw [h.hs i hi] at r1
  exact ⟨a1, a2, c1, c2, z1, r1, r2, i1, i2, hn, l1⟩

end Go.Proofs.Qxb6615059a
