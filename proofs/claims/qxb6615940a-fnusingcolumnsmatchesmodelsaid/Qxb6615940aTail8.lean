import Derived.Test.Qxb6615940aTail11
namespace Go.Proofs.Qxb6615940a
open Go.RowKit

set_option maxRecDepth 100000 in
set_option maxHeartbeats 4000000 in
theorem tail8 (nm kd tx ct cl tb : ByteArray) (a1 a7 : Option Addr) (len1 cap1 len7 cap7 : Nat) (cs : List (ByteArray × ByteArray)) (us : List ByteArray) (m : Int) (w0 w : World) (c8 c9 c10 c11 c12 c13 c14 c15 c16 c17 c18 c19 c20 c21 c22 c23 c24 c25 c26 c27 c28 c29 c30 c31 c32 c33 c34 c35 c36 c37 c38 c39 c40 c41 c42 c43 c44 c45 c46 c47 c48 c49 c50 c51 c52 c53 c54 c55 c56 c57 c58 c59 c60 c61 c62 c63 c64 c65 c66 c67 c68 c69 c70 c71 c72 c73 c74 c75 c76 c77 c78 c79 c80 c81 c82 c83 c84 c85 c86 c87 c88 c89 c90 c91 c92 c93 c94 c95 c96 c97 c98 c99 c100 c101 c102 c103 c104 c105 c106 c107 c108 c109 c110 c111 c112 c113 c114 c115 c116 c117 c118 c119 c120 c121 c122 c123 c124 c125 c126 c127 c128 c129 c130 c131 c132 c133 c134 c135 c136 c137 c138 c139 c140 c141 c142 c143 c144 c145 c146 c147 c148 c149 c150 c151 c152 c153 c154 c155 c156 c157 c158 c159 c160 c161 c162 c163 c164 c165 c166 c167 c168 c169 c170 c171 c172 c173 c174 c175 c176 c177 c178 c179 c180 c181 c182 c183 c184 c185 c186 c187 c188 c189 c190 c191 c192 c193 c194 c195 c196 c197 c198 c199 c200 c201 c202 c203 c204 c205 c206 c207 c208 c209 c210 c211 c212 c213 c214 c215 c216 c217 c218 c219 c220 c221 c222 c223 c224 c225 c226 c227 c228 c229 c230 c231 c232 c233 c234 c235 c236 c237 c238 c239 c240 c241 c242 c243 c244 c245 c246 c247 c248 c249 c250 c251 c252 c253 c254 c255 c256 c257 c258 c259 c260 c261 c262 c263 c264 c265 c266 c267 c268 c269 c270 c271 c272 c273 c274 c275 c276 c277 c278 c279 c280 c281 c282 c283 c284 c285 c286 c287 c288 c289 c290 c291 c292 c293 c294 c295 c296 c297 c298 c299 c300 : Value)
    (hB : Below w0.heap.size w0 w) (hm : w.cell? ⟨0, 0, none⟩ = some (.int .i64 m)) (hw0 : 0 < w.heap.size) (h1 : ColRow w a1 len1 cs) (h7 : StrRow w a7 len7 us) (hS : Small nm kd tx ct cl tb len1 len7 cs us) :
    Code.wp Try.prog (nthTail 8 (Try.f3.body.getD .skip)) (bodyPost Try.prog Try.f3 fun e w' => e = .returned (.bool true) ∧ Below w0.heap.size w0 w') ⟨#[.string nm, .slice a1 len1 cap1, .string kd, .string tx, .string ct, .string cl, .string tb, .slice a7 len7 cap7, c8, c9, c10, c11, c12, c13, c14, c15, c16, c17, c18, c19, c20, c21, c22, c23, c24, c25, c26, c27, c28, c29, c30, c31, c32, c33, c34, c35, c36, c37, c38, c39, c40, c41, c42, c43, c44, c45, c46, c47, c48, c49, c50, c51, c52, c53, c54, c55, c56, c57, c58, c59, c60, c61, c62, c63, c64, c65, c66, c67, c68, c69, c70, c71, c72, c73, c74, c75, c76, c77, c78, c79, c80, c81, c82, c83, c84, c85, c86, c87, c88, c89, c90, c91, c92, c93, c94, c95, c96, c97, c98, c99, c100, c101, c102, c103, c104, c105, c106, c107, c108, c109, c110, c111, c112, c113, c114, c115, c116, c117, c118, c119, c120, c121, c122, c123, c124, c125, c126, c127, c128, c129, c130, c131, c132, c133, c134, c135, c136, c137, c138, c139, c140, c141, c142, c143, c144, c145, c146, c147, c148, c149, c150, c151, c152, c153, c154, c155, c156, c157, c158, c159, c160, c161, c162, c163, c164, c165, c166, c167, c168, c169, c170, c171, c172, c173, c174, c175, c176, c177, c178, c179, c180, c181, c182, c183, c184, c185, c186, c187, c188, c189, c190, c191, c192, c193, c194, c195, c196, c197, c198, c199, c200, c201, c202, c203, c204, c205, c206, c207, c208, c209, c210, c211, c212, c213, c214, c215, c216, c217, c218, c219, c220, c221, c222, c223, c224, c225, c226, c227, c228, c229, c230, c231, c232, c233, c234, c235, c236, c237, c238, c239, c240, c241, c242, c243, c244, c245, c246, c247, c248, c249, c250, c251, c252, c253, c254, c255, c256, c257, c258, c259, c260, c261, c262, c263, c264, c265, c266, c267, c268, c269, c270, c271, c272, c273, c274, c275, c276, c277, c278, c279, c280, c281, c282, c283, c284, c285, c286, c287, c288, c289, c290, c291, c292, c293, c294, c295, c296, c297, c298, c299, c300], []⟩ w := by
  have H1 : Hid (ColRow w a1 len1 cs) := h1
  have H7 : Hid (StrRow w a7 len7 us) := h7
  have HM : Hid (w.cell? ⟨0, 0, none⟩ = some (.int .i64 m)) := hm
  have HS : Hid (Small nm kd tx ct cl tb len1 len7 cs us) := hS
  have s1 := hS.hnm
  have s3 := hS.htx
  clear h1 h7 hm hS
  conv => arg 2; whnf
  dsimp only
  go_upto_region 31 with fail
  go_cut [21] (fun b wd => ∃ W : Bool, b = .bool W ∧ Hid (W = specialB kd) ∧ wd = w)
  case first =>
    as_aux_lemma =>
    by_cases k1 : (kd.toList == [100, 101, 102, 97, 117, 108, 116]) = true
    · go_wp2
      go_meet
      refine ⟨_, rfl, ?_, rfl⟩
      show _ = _
      simp [specialB, k1]
    · have k1' : (kd.toList == [100, 101, 102, 97, 117, 108, 116]) = false := by simpa using k1
      clear k1
      by_cases k2 : (kd.toList == [103, 101, 110, 101, 114, 97, 116, 105, 111, 110, 32, 101, 120, 112, 114, 101, 115, 115, 105, 111, 110]) = true
      · go_wp2
        go_meet
        refine ⟨_, rfl, ?_, rfl⟩
        show _ = _
        simp [specialB, k2]
      · have k2' : (kd.toList == [103, 101, 110, 101, 114, 97, 116, 105, 111, 110, 32, 101, 120, 112, 114, 101, 115, 115, 105, 111, 110]) = false := by simpa using k2
        clear k2
        go_wp2
        go_meet
        refine ⟨_, rfl, ?_, rfl⟩
        show _ = _
        simp [specialB, k1', k2']
  case rest =>
  obtain ⟨W, rfl, HW, rfl⟩ := hcut
  by_cases hE : W = true ∧ nm.size = 0
  · as_aux_lemma =>
    obtain ⟨rfl, hn0⟩ := hE
    have hne : (nm.toList == []) = true := toList_nil hn0
    go_wp2
    go_ret
    exact ⟨rfl, hB⟩
  · have HSP : Hid (specialB kd = true → 0 < nm.size) := fun h => by
      rcases Nat.eq_zero_or_pos nm.size with h0 | h0
      · exact absurd ⟨HW.out.trans h, h0⟩ hE
      · exact h0
    have HS2 : Hid (W = true → (nm.toList == []) = false) := fun h => toList_ne (HSP.out (HW.out.symm.trans h))
    clear hE
    go_upto_region 32 with fail
    go_cut [185] (fun b wd => b = .bool false ∧ wd = wc)
    case first =>
      as_aux_lemma =>
      cases W with
      | true =>
        have hne := HS2.out rfl
        go_wp2
        go_meet
        exact ⟨rfl, rfl⟩
      | false =>
        go_wp2
        go_meet
        exact ⟨rfl, rfl⟩
    case rest =>
    obtain ⟨rfl, rfl⟩ := hcut
    go_upto_region 34 with fail
    go_cut [22] (fun b wd => ∃ V : Bool, b = .bool V ∧ Hid (V = wholeB nm kd tx) ∧ wd = wc)
    case first =>
      as_aux_lemma =>
      cases W with
      | true =>
        have hn0 := HSP.out HW.out.symm
        go_wp2_with (go_at_call 5; refine (zzMent _ _ _ s3 s1 hn0).mono ?_; rintro e w' ⟨rfl, rfl⟩)
        go_meet
        refine ⟨_, rfl, ?_, rfl⟩
        show _ = _
        simp [wholeB, ← HW.out]
      | false =>
        go_wp2
        go_meet
        refine ⟨_, rfl, ?_, rfl⟩
        show _ = _
        simp [wholeB, ← HW.out]
    case rest =>
    obtain ⟨V, rfl, HV, rfl⟩ := hcut
    refine (‹∀ (a : Act) (w : World), Code.wp Try.prog _ _ a w → _› _ _ ?_)
    exact tail11 nm kd tx ct cl tb a1 a7 len1 cap1 len7 cap7 cs us V m w0 wc _ _ _ _ _ _ _ _ _ _ _ _ _ _ _ _ _ _ _ _ _ _ _ _ _ _ _ _ _ _ _ _ _ _ _ _ _ _ _ _ _ _ _ _ _ _ _ _ _ _ _ _ _ _ _ _ _ _ _ _ _ _ _ _ _ _ _ _ _ _ _ _ _ _ _ _ _ _ _ _ _ _ _ _ _ _ _ _ _ _ _ _ _ _ _ _ _ _ _ _ _ _ _ _ _ _ _ _ _ _ _ _ _ _ _ _ _ _ _ _ _ _ _ _ _ _ _ _ _ _ _ _ _ _ _ _ _ _ _ _ _ _ _ _ _ _ _ _ _ _ _ _ _ _ _ _ _ _ _ _ _ _ _ _ _ _ _ _ _ _ _ _ _ _ _ _ _ _ _ _ _ _ _ _ _ _ _ _ _ _ _ _ _ _ _ _ _ _ _ _ _ _ _ _ _ _ _ _ _ _ _ _ _ _ _ _ _ _ _ _ _ _ _ _ _ _ _ _ _ _ _ _ _ _ _ _ _ _ _ _ _ _ _ _ _ _ _ _ _ _ _ _ _ _ _ _ _ _ _ _ _ _ _ _ _ _ _ _ _ _ _ _ _ _ _ _ _ _ _ _ _ _ _ _ _ _ _ _ _ _ _ _ hB HM.out hw0 H1.out H7.out HS.out HV.out HSP.out

end Go.Proofs.Qxb6615940a
