/-
  The map of the columns' types, made by the call: name to type. The laws at the operations.
-/
import Derived.Test.Qxb6615940aBytes
import Derived.Maps.OwnOps
import Derived.Maps.StringElems
namespace Go.Proofs.Qxb6615940a
open Go.RowKit Go.Maps
open Go.WideMaps (keyOf_string_mk)

theorem tyKey : Keyed Try.prog 9 := string_keyed Try.underlying9
theorem tyZero (w : World) : (zeroValue 9).run Try.prog w = .ok (.string ⟨#[]⟩) w := by kernel_rfl

/-- Block M is the map of the types of cs, of at most k entries. -/
def Types (w : World) (M k : Nat) (cs : List (ByteArray × ByteArray)) : Prop :=
  ∃ D : DataW Unit, w.ownsMap Try.prog 9 (plainElem Try.prog 9) M k D ∧ ∀ s : ByteArray, D.atKey (.string s.data.toList) (.lit (.string [])) = .lit (.string (typeOf cs s).data.toList)

theorem Types.made (w : World) : Types (w.alloc (.map #[] 0)) w.heap.size 0 [] :=
  ⟨.map [], World.ownsMap_made _ _ _ _, fun _ => rfl⟩

theorem Types.kept {w w' : World} {M k : Nat} {cs : List (ByteArray × ByteArray)} {row : Option Nat} (h : Types w M k cs) (hg : w.grownBy w' row) (hne : some M ≠ row) : Types w' M k cs := by
  obtain ⟨D, h1, h2⟩ := h
  exact ⟨D, h1.kept hg hne, h2⟩

theorem Types.lt {w : World} {M k : Nat} {cs : List (ByteArray × ByteArray)} (h : Types w M k cs) : M < w.heap.size := by
  obtain ⟨D, h1, _⟩ := h
  exact h1.lt

/-- The map's block is no row of cells. -/
theorem Types.ne {w : World} {M k : Nat} {cs : List (ByteArray × ByteArray)} (h : Types w M k cs) {b : Nat} {C : Array Value} {t : TypeId} {f : Nat × Nat} (hb : w.heap[b]? = some (.cells C t f)) : M ≠ b := by
  rintro rfl
  obtain ⟨D, ⟨es, clock, h1, _⟩, _⟩ := h
  rw [hb] at h1
  cases h1

theorem Types.ne_row {w : World} {M k : Nat} {cs : List (ByteArray × ByteArray)} (h : Types w M k cs) {base : Nat} {e : TypeId} {size : Nat} {v : Value} {n : Nat} {xs : List Value} (ho : w.ownsRow base e size v n xs) : some M ≠ v.ownBlock := by
  rcases ho.2 with ⟨rfl, _⟩ | ⟨g, cap, cur, rfl, _, hg, _⟩
  · simp [Value.ownBlock]
  · simp only [Value.ownBlock, ne_eq, Option.some.injEq]
    exact h.ne hg

theorem Types.put {w w' : World} {M k : Nat} {cs : List (ByteArray × ByteArray)} {s t : ByteArray} {D : DataW Unit} (hD : w.ownsMap Try.prog 9 (plainElem Try.prog 9) M k D)
    (hat : ∀ s : ByteArray, D.atKey (.string s.data.toList) (.lit (.string [])) = .lit (.string (typeOf cs s).data.toList)) (hs : s.size ≤ maxLen)
    (h' : w'.ownsMap Try.prog 9 (plainElem Try.prog 9) M (k + 1) (D.put (.string s.data.toList) (.lit (.string t.data.toList)))) : Types w' M (k + 1) (cs ++ [(s, t)]) := by
  refine ⟨_, h', fun n => ?_⟩
  rw [typeOf_snoc]
  by_cases e : n.data.toList = s.data.toList
  · rw [if_pos (by simp [ByteArray.toList_eq, e]), e]
    exact atKey_put_same (hD.tidy tyKey).isMap (tyKey.key (keyOf_string_mk Try.underlying9 hs)) _ _
  · rw [if_neg (by simp only [ByteArray.toList_eq, beq_iff_eq]; exact fun h => e h.symm), atKey_put_other (by intro h; exact e (Lit.string.inj h))]
    exact hat n

theorem wpList_mapUpdate_types (w : World) {ops : Array Oper} {rest : List Oper} {o : Oper} {a : Act} {Q : Exit → Act → World → Prop}
    (hg : o.guard = none) (m x v : Operand) (hop : o.op = Op.mapUpdate 55 m x v) (M k : Nat) (cs : List (ByteArray × ByteArray)) (hm : a.eval m = .map (some M)) (ht : Types w M k cs) (hn : k ≤ 1048576)
    (s t : ByteArray) (hx : a.eval x = .string s) (hv : a.eval v = .string t) (hs : s.size ≤ 1048576) (hts : t.size ≤ 1048576)
    (hK : ∀ w', Types w' M (k + 1) (cs ++ [(s, t)]) → w.grownBy w' (some M) → wpList Try.prog ops Q rest (a.put o.dst undef) w') :
    wpList Try.prog ops Q (o :: rest) a w := by
  obtain ⟨D, hD, hat⟩ := ht
  refine wpList_mapUpdate_own w hg m x v 55 hop 9 9 tyKey Try.underlying55 (plainElem Try.prog 9) M k D hm hD (by unfold maxLen; omega) _ _ (.string s.data.toList) hx hv (keyOf_string_mk Try.underlying9 (by unfold maxLen; omega))
    (.lit (.string t.data.toList)) [] (plainElem_string Try.underlying9 (by unfold maxLen; omega)) ?_
  intro w' h' hgr
  exact hK w' (Types.put hD hat (by unfold maxLen; omega) h') hgr

theorem ba_ext {a b : ByteArray} (h : a.data.toList = b.data.toList) : a = b := by
  cases a with
  | mk d => cases b with
    | mk e => simp at h; rw [h]

theorem wpList_lookup_types (w : World) {ops : Array Oper} {rest : List Oper} {o : Oper} {a : Act} {Q : Exit → Act → World → Prop}
    (hg : o.guard = none) (m x : Operand) (hop : o.op = Op.lookup 55 m x false) (M k : Nat) (cs : List (ByteArray × ByteArray)) (hm : a.eval m = .map (some M)) (ht : Types w M k cs)
    (s : ByteArray) (hx : a.eval x = .string s) (hs : s.size ≤ 1048576)
    (hK : wpList Try.prog ops Q rest (a.put o.dst (.string (typeOf cs s))) w) :
    wpList Try.prog ops Q (o :: rest) a w := by
  obtain ⟨D, hD, hat⟩ := ht
  obtain ⟨v, ps, hrun, hv⟩ := hD.lookup tyKey Try.underlying55 (tyZero w) (zd := .lit (.string [])) (zp := []) (plainElem_string Try.underlying9 (s := ⟨#[]⟩) (by decide)) (keyOf_string_mk Try.underlying9 (s := s) (by unfold maxLen; omega))
  rw [hat s] at hv
  obtain ⟨c, rfl, hc, _⟩ := plainElem_string_inv Try.underlying9 hv
  simp only [Prod.mk.injEq, DataW.lit.injEq, Lit.string.injEq] at hc
  have e : typeOf cs s = c := ba_ext hc.1
  rw [e] at hK
  refine wpList_plain hg fun K' hK' => ?_
  unfold Oper.wp
  simp [execOp, hop, hm, hx, hrun, Result.andThen]
  exact hK' _ _ hK

end Go.Proofs.Qxb6615940a
