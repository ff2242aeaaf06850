import Derived.Test.Qxb6615940aTail18
namespace Go.Proofs.Qxb6615940a
open Go.RowKit

theorem colsCells_at (cs : List (ByteArray × ByteArray)) : ∀ (names : List ByteArray) (i : Nat) (n : ByteArray) (j : Nat) (x : Value), names[i]? = some n → (colCells (n, typeOf cs n))[j]? = some x → (colsCells cs names)[i * 23 + j]? = some x
  | [], i, n, j, x, h, _ => by simp at h
  | y :: ys, 0, n, j, x, h, hx => by
    simp only [List.getElem?_cons_zero, Option.some.injEq] at h
    subst h
    have hj : j < 23 := (List.getElem?_eq_some_iff.1 hx).1
    show (colCells (y, typeOf cs y) ++ colsCells cs ys)[0 * 23 + j]? = _
    rw [Nat.zero_mul, Nat.zero_add, List.getElem?_append_left (by rw [colCells_len]; exact hj)]
    exact hx
  | y :: ys, i + 1, n, j, x, h, hx => by
    have ih := colsCells_at cs ys i n j x (by simpa using h) hx
    show (colCells (y, typeOf cs y) ++ colsCells cs ys)[(i + 1) * 23 + j]? = _
    rw [List.getElem?_append_right (by rw [colCells_len]; omega), colCells_len, show (i + 1) * 23 + j - 23 = i * 23 + j from by omega]
    exact ih

theorem TabRow.of_cols {w : World} {base : Nat} {v : Value} {cs : List (ByteArray × ByteArray)} {names : List ByteArray} (h : w.ownsRow base 42 23 v names.length (colsCells cs names)) :
    ∃ a c, v = .slice a names.length c ∧ TabRow w a names.length (names.map fun x => (x, typeOf cs x)) := by
  have hlt := h.lt
  rcases h.2 with ⟨rfl, h0⟩ | ⟨g, cap, cur, rfl, _⟩
  · exact ⟨none, 0, by rw [h0], by simp, fun hp => by omega⟩
  · refine ⟨_, _, rfl, by simp, fun _ => ⟨g, rfl, (hlt g rfl).2, fun i c hi j x hx => ?_⟩⟩
    rw [List.getElem?_map] at hi
    obtain ⟨y, hy, rfl⟩ := Option.map_eq_some_iff.1 hi
    have hin := (List.getElem?_eq_some_iff.1 hy).1
    have hj : j < 23 := (List.getElem?_eq_some_iff.1 hx).1
    rw [h.cellAt (i * 23 + j) (by omega)]
    exact colsCells_at cs names i y j x hy hx

theorem isNone_iff {w : World} {a : Option Addr} {n c : Nat} {l : List (ByteArray × ByteArray)} (h : TabRow w a n l) (h0 : n = 0 → Value.slice a n c = .slice none 0 0) : (a.isNone == ((n : Int) == 0)) = true := by
  rcases Nat.eq_zero_or_pos n with e | e
  · have := h0 e
    simp only [Value.slice.injEq] at this
    simp [this.1, e]
  · obtain ⟨g, rfl, _⟩ := h.2 e
    have : ((n : Int) == 0) = false := by simp; omega
    simp [this]

set_option linter.unusedSimpArgs false
set_option maxRecDepth 100000 in
set_option maxHeartbeats 4000000 in
theorem tail11 (nm kd tx ct cl tb : ByteArray) (a1 a7 : Option Addr) (len1 cap1 len7 cap7 : Nat) (cs : List (ByteArray × ByteArray)) (us : List ByteArray) (V : Bool) (m : Int) (w0 w : World) (c8 c9 c10 c11 c12 c13 c14 c15 c16 c17 c18 c19 c20 c21 c23 c24 c25 c26 c27 c28 c29 c30 c31 c32 c33 c34 c35 c36 c37 c38 c39 c40 c41 c42 c43 c44 c45 c46 c47 c48 c49 c50 c51 c52 c53 c54 c55 c56 c57 c58 c59 c60 c61 c62 c63 c64 c65 c66 c67 c68 c69 c70 c71 c72 c73 c74 c75 c76 c77 c78 c79 c80 c81 c82 c83 c84 c85 c86 c87 c88 c89 c90 c91 c92 c93 c94 c95 c96 c97 c98 c99 c100 c101 c102 c103 c104 c105 c106 c107 c108 c109 c110 c111 c112 c113 c114 c115 c116 c117 c118 c119 c120 c121 c122 c123 c124 c125 c126 c127 c128 c129 c130 c131 c132 c133 c134 c135 c136 c137 c138 c139 c140 c141 c142 c143 c144 c145 c146 c147 c148 c149 c150 c151 c152 c153 c154 c155 c156 c157 c158 c159 c160 c161 c162 c163 c164 c165 c166 c167 c168 c169 c170 c171 c172 c173 c174 c175 c176 c177 c178 c179 c180 c181 c182 c183 c184 c185 c186 c187 c188 c189 c190 c191 c192 c193 c194 c195 c196 c197 c198 c199 c200 c201 c202 c203 c204 c205 c206 c207 c208 c209 c210 c211 c212 c213 c214 c215 c216 c217 c218 c219 c220 c221 c222 c223 c224 c225 c226 c227 c228 c229 c230 c231 c232 c233 c234 c235 c236 c237 c238 c239 c240 c241 c242 c243 c244 c245 c246 c247 c248 c249 c250 c251 c252 c253 c254 c255 c256 c257 c258 c259 c260 c261 c262 c263 c264 c265 c266 c267 c268 c269 c270 c271 c272 c273 c274 c275 c276 c277 c278 c279 c280 c281 c282 c283 c284 c285 c286 c287 c288 c289 c290 c291 c292 c293 c294 c295 c296 c297 c298 c299 c300 : Value)
    (hB : Below w0.heap.size w0 w) (hm : w.cell? ⟨0, 0, none⟩ = some (.int .i64 m)) (hw0 : 0 < w.heap.size) (h1 : ColRow w a1 len1 cs) (h7 : StrRow w a7 len7 us) (hS : Small nm kd tx ct cl tb len1 len7 cs us)
    (hV : V = wholeB nm kd tx) (hsp : specialB kd = true → 0 < nm.size) :
    Code.wp Try.prog (nthTail 11 (Try.f3.body.getD .skip)) (bodyPost Try.prog Try.f3 fun e w' => e = .returned (.bool true) ∧ Below w0.heap.size w0 w') ⟨#[.string nm, .slice a1 len1 cap1, .string kd, .string tx, .string ct, .string cl, .string tb, .slice a7 len7 cap7, c8, c9, c10, c11, c12, c13, c14, c15, c16, c17, c18, c19, c20, c21, .bool V, c23, c24, c25, c26, c27, c28, c29, c30, c31, c32, c33, c34, c35, c36, c37, c38, c39, c40, c41, c42, c43, c44, c45, c46, c47, c48, c49, c50, c51, c52, c53, c54, c55, c56, c57, c58, c59, c60, c61, c62, c63, c64, c65, c66, c67, c68, c69, c70, c71, c72, c73, c74, c75, c76, c77, c78, c79, c80, c81, c82, c83, c84, c85, c86, c87, c88, c89, c90, c91, c92, c93, c94, c95, c96, c97, c98, c99, c100, c101, c102, c103, c104, c105, c106, c107, c108, c109, c110, c111, c112, c113, c114, c115, c116, c117, c118, c119, c120, c121, c122, c123, c124, c125, c126, c127, c128, c129, c130, c131, c132, c133, c134, c135, c136, c137, c138, c139, c140, c141, c142, c143, c144, c145, c146, c147, c148, c149, c150, c151, c152, c153, c154, c155, c156, c157, c158, c159, c160, c161, c162, c163, c164, c165, c166, c167, c168, c169, c170, c171, c172, c173, c174, c175, c176, c177, c178, c179, c180, c181, c182, c183, c184, c185, c186, c187, c188, c189, c190, c191, c192, c193, c194, c195, c196, c197, c198, c199, c200, c201, c202, c203, c204, c205, c206, c207, c208, c209, c210, c211, c212, c213, c214, c215, c216, c217, c218, c219, c220, c221, c222, c223, c224, c225, c226, c227, c228, c229, c230, c231, c232, c233, c234, c235, c236, c237, c238, c239, c240, c241, c242, c243, c244, c245, c246, c247, c248, c249, c250, c251, c252, c253, c254, c255, c256, c257, c258, c259, c260, c261, c262, c263, c264, c265, c266, c267, c268, c269, c270, c271, c272, c273, c274, c275, c276, c277, c278, c279, c280, c281, c282, c283, c284, c285, c286, c287, c288, c289, c290, c291, c292, c293, c294, c295, c296, c297, c298, c299, c300], []⟩ w := by
  have H1 : Hid (ColRow w a1 len1 cs) := h1
  have H7 : Hid (StrRow w a7 len7 us) := h7
  have HM : Hid (w.cell? ⟨0, 0, none⟩ = some (.int .i64 m)) := hm
  have HV : Hid (V = wholeB nm kd tx) := hV
  have HSP : Hid (specialB kd = true → 0 < nm.size) := hsp
  have HS : Hid (Small nm kd tx ct cl tb len1 len7 cs us) := hS
  have hl1 := hS.h1
  have HL1 : Hid (cs.length = len1) := h1.1
  have HL7 : Hid (us.length = len7) := h7.1
  clear h1 h7 hm hV hsp hS
  have e30 := fun (w : World) (a : Option Addr) (n c : Nat) => Lib.run_eql_slice_nil (P := Try.prog) w 30 42 a n c 0 0 Try.underlying30
  obtain ⟨tb2, htb⟩ : ∃ tb2, tb2 = (if wholeB nm kd tx = true then nm else tb) := ⟨_, rfl⟩
  obtain ⟨names, hnames⟩ : ∃ names, names = namesOf nm kd tx cs us := ⟨_, rfl⟩
  have HTB : Hid (tb2 = (if V = true then nm else tb)) := by show _ = _; rw [HV.out]; exact htb
  have HNM : Hid (names = if V = true then cs.map Prod.fst else us) := by show _ = _; rw [HV.out]; exact hnames
  conv => arg 2; whnf
  go_upto_if 212 with (first
    | (go_at_call 6; refine (zzTable nm a1 len1 cap1 cs _ hl1 H1.out).mono ?_; rintro e w1 ⟨p, rfl, hb1, ht1⟩; have HT1 := (show Hid (Table w1 p nm cs) from ht1); clear ht1; have s1 := hb1.size)
    | (go_at_call 7; refine (zzUsing nm kd tx ct cl tb p cs a7 len7 cap7 us _ m ((hb1.cell (p := ⟨0, 0, none⟩) hw0).trans HM.out) (by omega) HT1.out (H7.out.below hb1 (Nat.le_refl _)) HS.out.hnm HS.out.htx HSP.out (by rw [HL1.out]; exact hl1) HS.out.hcs HS.out.h7 HS.out.hus).mono ?_; rintro e w2 ⟨out, rfl, hb2, ho2, hn2⟩; rw [← hnames] at ho2 hn2; rw [← hnames, ← htb]; clear hnames htb; obtain ⟨ao, co, hout, htab⟩ := TabRow.of_cols ho2; subst hout; have HO := (show Hid (TabRow w2 ao names.length (names.map fun x => (x, typeOf cs x))) from htab); have HN2 := (show Hid (names.length = 0 → Value.slice ao names.length co = .slice none 0 0) from hn2); clear htab hn2 ho2; have s2 := hb2.size))
  have hB2 : Below w0.heap.size w0 w2 := (hB.trans (hb1.mono hB.size)).trans (hb2.mono (by have := hB.size; omega))
  have hb12 : Below w.heap.size w w2 := hb1.trans (hb2.mono s1)
  obtain ⟨txt, htxt⟩ : ∃ txt : ByteArray, txt = ⟨(colsText cs names).toArray⟩ := ⟨_, rfl⟩
  rw [← htxt]
  have HX : Hid (txt = ⟨(colsText cs names).toArray⟩) := htxt
  clear htxt
  obtain ⟨n, hn⟩ : ∃ n, n = names.length := ⟨_, rfl⟩
  rw [← hn] at HO HN2 ⊢
  have HNL : Hid (n = names.length) := hn
  clear hn
  go_cut [30, 31, 32] (fun u v _ wd => ∃ a c, u = .string tb2 ∧ v = .slice a n c ∧ StrRow wd a n names ∧ Below w2.heap.size w2 wd)
  case first =>
    as_aux_lemma =>
    cases V with
    | true =>
      have e1 : tb2 = nm := HTB.out
      have e2 : names = cs.map Prod.fst := HNM.out
      have e3 : n = cs.length := by rw [HNL.out, e2, List.length_map]
      have HE1 : Hid (tb2 = nm) := e1
      have HE2 : Hid (names = cs.map Prod.fst) := e2
      have HE3 : Hid (n = cs.length) := e3
      clear e1 e2 e3
      obtain ⟨i0, hi, hz0, hz1, hz2⟩ := info_parts Try.info9
      go_wp2
      go_loopw [31, 32] (fun v i wr => ∃ k : Nat, k ≤ len1 ∧ i = .int .i64 k ∧ wr.ownsRow w2.heap.size 9 1 v k (((cs.map Prod.fst).take k).map Value.string) ∧ Below w2.heap.size w2 wr) (fun _ i _ => len1 - (intOf i).toNat)
      case atStart => exact ⟨0, Nat.zero_le _, rfl, World.ownsRow_nil _ _ _ _, Below.refl _ _⟩
      case round =>
        obtain ⟨k, hk, rfl, hown, hbel⟩ := hrel
        have hbs := hbel.size
        by_cases hk2 : k < len1
        · obtain ⟨b, off, s, t, hx, hbw, hck, c1, c2⟩ := ((H1.out.below hb12 (Nat.le_refl _)).below hbel (Nat.le_refl _)).at hk2
          subst hx
          have HCK : Hid (cs[k]? = some (s, t)) := hck
          clear hck c2 H1 H7 HM HV HSP HT1 HO HN2
          have k26 := Try.cells26
          go_wp2_with (at_builtin; refine wpList_append_own _ rfl _ _ 23 rfl w2.heap.size 9 i0 (.string ⟨#[]⟩) 1 16 Try.underlying23 hi hz0 hz1 hz2 rfl (by decide) _ _ _ rfl (hown.alloc _) ⟨wr.heap.size, 0, none⟩ 1 1 [.string s] rfl rfl (cell_one_new _ _ _) (one_cell_string s) (by unfold maxLen; omega) (by omega) (by simp; omega) ?_; intro v' w3 hown3 hgrow3 _)
          go_roundw
          case rel => exact ⟨k + 1, by omega, by go_num, by rw [names_snoc HCK.out]; exact hown3, (hbel.alloc hbs _).grown hgrow3 (by simp; omega) (fun j hj => (hown.lt j hj).1)⟩
          case measure => simp [intOf]; omega
        · have hkk : k = n := by have := HE3.out; have := HL1.out; omega
          have HK : Hid (k = n) := hkk
          clear hkk
          go_wp2
          go_meet
          have hl2 : (cs.map Prod.fst).length = n := by rw [List.length_map, HE3.out]
          rw [HK.out, List.take_of_length_le (by omega), ← HE2.out] at hown
          obtain ⟨a', c', hv, hrow⟩ := StrRow.of_owns hown HNL.out.symm
          exact ⟨a', c', by rw [HE1.out], hv, hrow, hbel⟩
    | false =>
      have e1 : tb2 = tb := HTB.out
      have e2 : names = us := HNM.out
      have e3 : n = len7 := by rw [HNL.out, e2, H7.out.1]
      have HE1 : Hid (tb2 = tb) := e1
      have HE2 : Hid (names = us) := e2
      have HE3 : Hid (n = len7) := e3
      clear e1 e2 e3
      go_wp2
      go_meet
      refine ⟨a7, cap7, by rw [HE1.out], by rw [HE3.out], ?_, Below.refl _ _⟩
      rw [HE2.out, HE3.out]
      exact H7.out.below hb12 (Nat.le_refl _)
  case rest =>
  obtain ⟨an, cn, rfl, rfl, hrow, hb3⟩ := hcut
  have HR : Hid (StrRow wc an n names) := hrow
  have HO3 : Hid (TabRow wc ao n (names.map fun x => (x, typeOf cs x))) := HO.out.below hb3 (Nat.le_refl _)
  have HC3 : Hid (ColRow wc a1 len1 cs) := (H1.out.below hb12 (Nat.le_refl _)).below hb3 (Nat.le_refl _)
  have hB3 : Below w0.heap.size w0 wc := hB2.trans (hb3.mono hB2.size)
  have hisn : (ao.isNone == ((n : Int) == 0)) = true := isNone_iff HO.out HN2.out
  clear hrow hb3 H1 H7 HT1 HO HN2
  go_upto_if 258 with fail
  go_cut [] (fun wd => wd = wc)
  case first =>
    as_aux_lemma =>
    go_wp2
    go_meet
    rfl
  case rest =>
  obtain rfl := hcut
  refine (‹∀ (a : Act) (w : World), Code.wp Try.prog _ _ a w → _› _ _ ?_)
  rw [HX.out]
  refine tail18 a1 ao an len1 cap1 n co cn cs names w0 wc _ _ _ _ _ _ _ _ _ _ _ _ _ _ _ _ _ _ _ _ _ _ _ _ _ _ _ _ _ _ _ _ _ _ _ _ _ _ _ _ _ _ _ _ _ _ _ _ _ _ _ _ _ _ _ _ _ _ _ _ _ _ _ _ _ _ _ _ _ _ _ _ _ _ _ _ _ _ _ _ _ _ _ _ _ _ _ _ _ _ _ _ _ _ _ _ _ _ _ _ _ _ _ _ _ _ _ _ _ _ _ _ _ _ _ _ _ _ _ _ _ _ _ _ _ _ _ _ _ _ _ _ _ _ _ _ _ _ _ _ _ _ _ _ _ _ _ _ _ _ _ _ _ _ _ _ _ _ _ _ _ _ _ _ _ _ _ _ _ _ _ _ _ _ _ _ _ _ _ _ _ _ _ _ _ _ _ _ _ _ _ _ _ _ _ _ _ _ _ _ _ _ _ _ _ _ _ _ _ _ _ _ _ _ _ _ _ _ _ _ _ _ _ _ _ _ _ _ _ _ _ _ _ _ _ _ _ _ _ _ _ _ _ _ _ _ _ _ _ _ _ _ _ _ _ _ _ _ _ _ _ _ _ _ _ _ _ _ _ _ _ _ _ _ _ _ _ _ _ _ _ _ _ _ _ _ _ _ _ _ _ _ _ _ _ _ _ hB3 HC3.out hl1 HR.out ?_ HO3.out HS.out.hcs ?_
  · rw [HNL.out, HNM.out]
    cases V with
    | true => show (cs.map Prod.fst).length ≤ _; rw [List.length_map, HL1.out]; exact hl1
    | false => show us.length ≤ _; rw [HL7.out]; exact HS.out.h7
  · intro j u hj
    rw [HNM.out] at hj
    cases V with
    | true =>
      have hj' : (cs.map Prod.fst)[j]? = some u := hj
      rw [List.getElem?_map] at hj'
      obtain ⟨x, hx, rfl⟩ := Option.map_eq_some_iff.1 hj'
      exact (HS.out.hcs j x hx).1
    | false => exact HS.out.hus j u hj

end Go.Proofs.Qxb6615940a
