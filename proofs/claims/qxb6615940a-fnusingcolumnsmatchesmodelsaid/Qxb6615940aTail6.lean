import Derived.Test.Qxb6615940aTail8
namespace Go.Proofs.Qxb6615940a
open Go.RowKit

set_option maxRecDepth 100000 in
set_option maxHeartbeats 4000000 in
theorem tail6 (nm kd tx ct cl tb : ByteArray) (a1 a7 : Option Addr) (len1 cap1 len7 cap7 : Nat) (cs : List (ByteArray × ByteArray)) (us : List ByteArray) (m : Int) (q0 : Nat) (w0 w : World) (c8 c9 c10 c11 c12 c13 c14 c15 c16 c17 c19 c20 c21 c22 c23 c24 c25 c26 c27 c28 c29 c30 c31 c32 c33 c34 c35 c36 c37 c38 c39 c40 c41 c42 c43 c44 c45 c46 c47 c48 c49 c50 c51 c52 c53 c54 c55 c56 c57 c58 c59 c60 c61 c62 c63 c64 c65 c66 c67 c68 c69 c70 c71 c72 c73 c74 c75 c76 c77 c78 c79 c80 c81 c82 c83 c84 c85 c86 c87 c88 c89 c90 c91 c92 c93 c94 c95 c96 c97 c98 c99 c100 c101 c102 c103 c104 c105 c106 c107 c108 c109 c110 c111 c112 c113 c114 c115 c116 c117 c118 c119 c120 c121 c122 c123 c124 c125 c126 c127 c128 c129 c130 c131 c132 c133 c134 c135 c136 c137 c138 c139 c140 c141 c142 c143 c144 c145 c146 c147 c148 c149 c150 c151 c152 c153 c154 c155 c156 c157 c158 c159 c160 c161 c162 c163 c164 c165 c166 c167 c168 c169 c170 c171 c172 c173 c174 c175 c176 c177 c178 c179 c180 c181 c182 c183 c184 c185 c186 c187 c188 c189 c190 c191 c192 c193 c194 c195 c196 c197 c198 c199 c200 c201 c202 c203 c204 c205 c206 c207 c208 c209 c210 c211 c212 c213 c214 c215 c216 c217 c218 c219 c220 c221 c222 c223 c224 c225 c226 c227 c228 c229 c230 c231 c232 c233 c234 c235 c236 c237 c238 c239 c240 c241 c242 c243 c244 c245 c246 c247 c248 c249 c250 c251 c252 c253 c254 c255 c256 c257 c258 c259 c260 c261 c262 c263 c264 c265 c266 c267 c268 c269 c270 c271 c272 c273 c274 c275 c276 c277 c278 c279 c280 c281 c282 c283 c284 c285 c286 c287 c288 c289 c290 c291 c292 c293 c294 c295 c296 c297 c298 c299 c300 : Value)
    (hB : Below w0.heap.size w0 w) (hm : w.cell? ⟨0, 0, none⟩ = some (.int .i64 m)) (hw0 : 0 < w.heap.size) (h1 : ColRow w a1 len1 cs) (h7 : StrRow w a7 len7 us) (hS : Small nm kd tx ct cl tb len1 len7 cs us) (hq0 : q0 ≤ 1048576) :
    Code.wp Try.prog (nthTail 6 (Try.f3.body.getD .skip)) (bodyPost Try.prog Try.f3 fun e w' => e = .returned (.bool true) ∧ Below w0.heap.size w0 w') ⟨#[.string nm, .slice a1 len1 cap1, .string kd, .string tx, .string ct, .string cl, .string tb, .slice a7 len7 cap7, c8, c9, c10, c11, c12, c13, c14, c15, c16, c17, .int .i64 (q0 : Int), c19, c20, c21, c22, c23, c24, c25, c26, c27, c28, c29, c30, c31, c32, c33, c34, c35, c36, c37, c38, c39, c40, c41, c42, c43, c44, c45, c46, c47, c48, c49, c50, c51, c52, c53, c54, c55, c56, c57, c58, c59, c60, c61, c62, c63, c64, c65, c66, c67, c68, c69, c70, c71, c72, c73, c74, c75, c76, c77, c78, c79, c80, c81, c82, c83, c84, c85, c86, c87, c88, c89, c90, c91, c92, c93, c94, c95, c96, c97, c98, c99, c100, c101, c102, c103, c104, c105, c106, c107, c108, c109, c110, c111, c112, c113, c114, c115, c116, c117, c118, c119, c120, c121, c122, c123, c124, c125, c126, c127, c128, c129, c130, c131, c132, c133, c134, c135, c136, c137, c138, c139, c140, c141, c142, c143, c144, c145, c146, c147, c148, c149, c150, c151, c152, c153, c154, c155, c156, c157, c158, c159, c160, c161, c162, c163, c164, c165, c166, c167, c168, c169, c170, c171, c172, c173, c174, c175, c176, c177, c178, c179, c180, c181, c182, c183, c184, c185, c186, c187, c188, c189, c190, c191, c192, c193, c194, c195, c196, c197, c198, c199, c200, c201, c202, c203, c204, c205, c206, c207, c208, c209, c210, c211, c212, c213, c214, c215, c216, c217, c218, c219, c220, c221, c222, c223, c224, c225, c226, c227, c228, c229, c230, c231, c232, c233, c234, c235, c236, c237, c238, c239, c240, c241, c242, c243, c244, c245, c246, c247, c248, c249, c250, c251, c252, c253, c254, c255, c256, c257, c258, c259, c260, c261, c262, c263, c264, c265, c266, c267, c268, c269, c270, c271, c272, c273, c274, c275, c276, c277, c278, c279, c280, c281, c282, c283, c284, c285, c286, c287, c288, c289, c290, c291, c292, c293, c294, c295, c296, c297, c298, c299, c300], []⟩ w := by
  have H1 : Hid (ColRow w a1 len1 cs) := h1
  have H7 : Hid (StrRow w a7 len7 us) := h7
  have HM : Hid (w.cell? ⟨0, 0, none⟩ = some (.int .i64 m)) := hm
  have HS : Hid (Small nm kd tx ct cl tb len1 len7 cs us) := hS
  have hl1 := hS.h1
  have hl7 := hS.h7
  clear h1 h7 hm hS
  conv => arg 2; whnf
  dsimp only
  go_wp2
  go_loop [18, 19] (fun z i => ∃ k q : Nat, k ≤ len1 ∧ i = .int .i64 k ∧ z = .int .i64 q ∧ q ≤ 1048576) (fun _ i => len1 - (intOf i).toNat)
  case atStart => exact ⟨0, q0, Nat.zero_le _, rfl, rfl, hq0⟩
  case round =>
    obtain ⟨k, q, hk, rfl, rfl, hq⟩ := hrel
    by_cases hlt : k < len1
    · as_aux_lemma =>
      obtain ⟨b, off, s, t, hx, hbw, hck, c1, c2⟩ := H1.out.at hlt
      subst hx
      obtain ⟨hs1, hs2⟩ : s.size ≤ 1048576 ∧ t.size ≤ 1048576 := HS.out.hcs _ _ hck
      clear hck
      have k26 := Try.cells26
      by_cases hq4 : (1048576 : Int) < (q : Int) + 32
      · go_wp2
        go_ret
        exact ⟨rfl, hB⟩
      · have hq5 : decide ((1048576 : Int) < (q : Int) + 32) = false := decide_eq_false hq4
        have HQ : Hid (q + 32 ≤ 1048576) := by show _ ≤ _; omega
        clear hq4
        by_cases hq6 : (1048576 : Int) < (q : Int) + 32 + (s.size : Int) + (t.size : Int)
        · go_wp2
          go_ret
          exact ⟨rfl, hB⟩
        · have hq7 : (q : Int) + 32 + (s.size : Int) + (t.size : Int) ≤ 1048576 := by omega
          clear hq6
          go_wp2
          go_round
          case rel => exact ⟨k + 1, q + 32 + s.size + t.size, by omega, by go_num, by go_num, by omega⟩
          case measure => simp [intOf]; omega
    · go_wp2
      go_loop [18, 20] (fun z i => ∃ k q : Nat, k ≤ len7 ∧ i = .int .i64 k ∧ z = .int .i64 q ∧ q ≤ 1048576) (fun _ i => len7 - (intOf i).toNat)
      case atStart => exact ⟨0, q, Nat.zero_le _, rfl, rfl, by omega⟩
      case round =>
        obtain ⟨k2, q2, hk2, rfl, rfl, hq2⟩ := hrel
        by_cases hlt2 : k2 < len7
        · as_aux_lemma =>
          obtain ⟨b, off, s, hx, hbw, hck, c1⟩ := H7.out.at hlt2
          subst hx
          have hs1 : s.size ≤ 1048576 := HS.out.hus _ _ hck
          clear hck
          by_cases hq4 : (1048576 : Int) < (q2 : Int) + 16
          · go_wp2
            go_ret
            exact ⟨rfl, hB⟩
          · have hq5 : decide ((1048576 : Int) < (q2 : Int) + 16) = false := decide_eq_false hq4
            have HQ : Hid (q2 + 16 ≤ 1048576) := by show _ ≤ _; omega
            clear hq4
            by_cases hq6 : (1048576 : Int) < (q2 : Int) + 16 + (s.size : Int)
            · go_wp2
              go_ret
              exact ⟨rfl, hB⟩
            · have hq7 : (q2 : Int) + 16 + (s.size : Int) ≤ 1048576 := by omega
              clear hq6
              go_wp2
              go_round
              case rel => exact ⟨k2 + 1, q2 + 16 + s.size, by omega, by go_num, by go_num, by omega⟩
              case measure => simp [intOf]; omega
        · go_upto_if 151 with fail
          refine wp_cond (t := false) rfl ?_
          refine wp_exit ?_
          simp only [Exit.then]
          refine (‹∀ (a : Act) (w : World), Code.wp Try.prog _ _ a w → _› _ _ ?_)
          exact tail8 nm kd tx ct cl tb a1 a7 len1 cap1 len7 cap7 cs us m w0 w _ _ _ _ _ _ _ _ _ _ _ _ _ _ _ _ _ _ _ _ _ _ _ _ _ _ _ _ _ _ _ _ _ _ _ _ _ _ _ _ _ _ _ _ _ _ _ _ _ _ _ _ _ _ _ _ _ _ _ _ _ _ _ _ _ _ _ _ _ _ _ _ _ _ _ _ _ _ _ _ _ _ _ _ _ _ _ _ _ _ _ _ _ _ _ _ _ _ _ _ _ _ _ _ _ _ _ _ _ _ _ _ _ _ _ _ _ _ _ _ _ _ _ _ _ _ _ _ _ _ _ _ _ _ _ _ _ _ _ _ _ _ _ _ _ _ _ _ _ _ _ _ _ _ _ _ _ _ _ _ _ _ _ _ _ _ _ _ _ _ _ _ _ _ _ _ _ _ _ _ _ _ _ _ _ _ _ _ _ _ _ _ _ _ _ _ _ _ _ _ _ _ _ _ _ _ _ _ _ _ _ _ _ _ _ _ _ _ _ _ _ _ _ _ _ _ _ _ _ _ _ _ _ _ _ _ _ _ _ _ _ _ _ _ _ _ _ _ _ _ _ _ _ _ _ _ _ _ _ _ _ _ _ _ _ _ _ _ _ _ _ _ _ _ _ _ _ _ _ _ _ _ _ _ _ _ _ _ _ _ _ _ _ hB HM.out hw0 H1.out H7.out HS.out

end Go.Proofs.Qxb6615940a
