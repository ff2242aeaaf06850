import Derived.Test.Qxb6615940aCommon
import Derived.Deep.RegionHeld3
import Derived.Lib.BufferRead
import Derived.Laws.IdiomStrings
namespace Go.Proofs.Qxb6615940a
open Go.RowKit

set_option linter.unusedSimpArgs false
set_option maxRecDepth 100000 in
set_option maxHeartbeats 4000000 in
theorem tail18 (a1 ao an : Option Addr) (len1 cap1 n co cn : Nat) (cs : List (ByteArray × ByteArray)) (names : List ByteArray) (w0 w : World) (c0 c2 c3 c4 c5 c6 c7 c8 c9 c10 c11 c12 c13 c14 c15 c16 c17 c18 c19 c20 c21 c22 c23 c24 c25 c26 c28 c30 c32 c33 c34 c35 c36 c37 c38 c39 c40 c41 c42 c43 c44 c45 c46 c47 c48 c49 c50 c51 c52 c53 c54 c55 c56 c57 c58 c59 c60 c61 c62 c63 c64 c65 c66 c67 c68 c69 c70 c71 c72 c73 c74 c75 c76 c77 c78 c79 c80 c81 c82 c83 c84 c85 c86 c87 c88 c89 c90 c91 c92 c93 c94 c95 c96 c97 c98 c99 c100 c101 c102 c103 c104 c105 c106 c107 c108 c109 c110 c111 c112 c113 c114 c115 c116 c117 c118 c119 c120 c121 c122 c123 c124 c125 c126 c127 c128 c129 c130 c131 c132 c133 c134 c135 c136 c137 c138 c139 c140 c141 c142 c143 c144 c145 c146 c147 c148 c149 c150 c151 c152 c153 c154 c155 c156 c157 c158 c159 c160 c161 c162 c163 c164 c165 c166 c167 c168 c169 c170 c171 c172 c173 c174 c175 c176 c177 c178 c179 c180 c181 c182 c183 c184 c185 c186 c187 c188 c189 c190 c191 c192 c193 c194 c195 c196 c197 c198 c199 c200 c201 c202 c203 c204 c205 c206 c207 c208 c209 c210 c211 c212 c213 c214 c215 c216 c217 c218 c219 c220 c221 c222 c223 c224 c225 c226 c227 c228 c229 c230 c231 c232 c233 c234 c235 c236 c237 c238 c239 c240 c241 c242 c243 c244 c245 c246 c247 c248 c249 c250 c251 c252 c253 c254 c255 c256 c257 c258 c259 c260 c261 c262 c263 c264 c265 c266 c267 c268 c269 c270 c271 c272 c273 c274 c275 c276 c277 c278 c279 c280 c281 c282 c283 c284 c285 c286 c287 c288 c289 c290 c291 c292 c293 c294 c295 c296 c297 c298 c299 c300 : Value)
    (hB : Below w0.heap.size w0 w) (h1 : ColRow w a1 len1 cs) (hl1 : len1 ≤ 1048576) (hn : StrRow w an n names) (hnl : n ≤ 1048576) (ho : TabRow w ao n (names.map fun x => (x, typeOf cs x)))
    (hcs : ∀ (j : Nat) (c : ByteArray × ByteArray), cs[j]? = some c → c.1.size ≤ 1048576 ∧ c.2.size ≤ 1048576) (hns : ∀ (j : Nat) (u : ByteArray), names[j]? = some u → u.size ≤ 1048576) :
    Code.wp Try.prog (nthTail 18 (Try.f3.body.getD .skip)) (bodyPost Try.prog Try.f3 fun e w' => e = .returned (.bool true) ∧ Below w0.heap.size w0 w') ⟨#[c0, .slice a1 len1 cap1, c2, c3, c4, c5, c6, c7, c8, c9, c10, c11, c12, c13, c14, c15, c16, c17, c18, c19, c20, c21, c22, c23, c24, c25, c26, .string ⟨(colsText cs names).toArray⟩, c28, .slice ao n co, c30, .slice an n cn, c32, c33, c34, c35, c36, c37, c38, c39, c40, c41, c42, c43, c44, c45, c46, c47, c48, c49, c50, c51, c52, c53, c54, c55, c56, c57, c58, c59, c60, c61, c62, c63, c64, c65, c66, c67, c68, c69, c70, c71, c72, c73, c74, c75, c76, c77, c78, c79, c80, c81, c82, c83, c84, c85, c86, c87, c88, c89, c90, c91, c92, c93, c94, c95, c96, c97, c98, c99, c100, c101, c102, c103, c104, c105, c106, c107, c108, c109, c110, c111, c112, c113, c114, c115, c116, c117, c118, c119, c120, c121, c122, c123, c124, c125, c126, c127, c128, c129, c130, c131, c132, c133, c134, c135, c136, c137, c138, c139, c140, c141, c142, c143, c144, c145, c146, c147, c148, c149, c150, c151, c152, c153, c154, c155, c156, c157, c158, c159, c160, c161, c162, c163, c164, c165, c166, c167, c168, c169, c170, c171, c172, c173, c174, c175, c176, c177, c178, c179, c180, c181, c182, c183, c184, c185, c186, c187, c188, c189, c190, c191, c192, c193, c194, c195, c196, c197, c198, c199, c200, c201, c202, c203, c204, c205, c206, c207, c208, c209, c210, c211, c212, c213, c214, c215, c216, c217, c218, c219, c220, c221, c222, c223, c224, c225, c226, c227, c228, c229, c230, c231, c232, c233, c234, c235, c236, c237, c238, c239, c240, c241, c242, c243, c244, c245, c246, c247, c248, c249, c250, c251, c252, c253, c254, c255, c256, c257, c258, c259, c260, c261, c262, c263, c264, c265, c266, c267, c268, c269, c270, c271, c272, c273, c274, c275, c276, c277, c278, c279, c280, c281, c282, c283, c284, c285, c286, c287, c288, c289, c290, c291, c292, c293, c294, c295, c296, c297, c298, c299, c300], []⟩ w := by
  have H1 : Hid (ColRow w a1 len1 cs) := h1
  have HN : Hid (StrRow w an n names) := hn
  have HO : Hid (TabRow w ao n (names.map fun x => (x, typeOf cs x))) := ho
  have HC : Hid (∀ (j : Nat) (c : ByteArray × ByteArray), cs[j]? = some c → c.1.size ≤ 1048576 ∧ c.2.size ≤ 1048576) := hcs
  have HS : Hid (∀ (j : Nat) (u : ByteArray), names[j]? = some u → u.size ≤ 1048576) := hns
  have HNN : Hid (names.length = n) := hn.1
  clear h1 hn ho hcs hns
  conv => arg 2; whnf
  go_wp2
  go_loopw [33, 34] (fun v i wr => ∃ k : Nat, k ≤ n ∧ i = .int .i64 k ∧ wr.ownsRow w.heap.size 5 1 v (Lib.byteCells (colsText cs (names.take k))).length (Lib.byteCells (colsText cs (names.take k))) ∧ Below w.heap.size w wr) (fun _ i _ => n - (intOf i).toNat)
  case atStart => exact ⟨0, Nat.zero_le _, rfl, by simpa [colsText, Lib.byteCells] using World.ownsRow_nil w w.heap.size 5 1, Below.refl _ _⟩
  case round =>
    obtain ⟨k, hk, rfl, hown, hbel⟩ := hrel
    have hbs := hbel.size
    by_cases hk2 : k < n
    · obtain ⟨bn, offn, s, ha, hbw, hns, hcell⟩ := HN.out.at hk2
      subst ha
      obtain ⟨g, hao, hg, hrg⟩ := HO.out.2 (by omega)
      subst hao
      have hcell' := (hbel.cell (p := ⟨bn, offn + k, none⟩) hbw).trans hcell
      have HR : Hid (wr.rangeAt g (k * 23) (colCells (s, typeOf cs s))) := fun j x hx => (hbel.cell (p := ⟨g, k * 23 + j, none⟩) hg).trans (hrg k _ (by rw [List.getElem?_map, hns]; rfl) j x hx)
      have HCR : Hid (ColRow wr a1 len1 cs) := H1.out.below hbel (Nat.le_refl _)
      have HSK : Hid (names[k]? = some s) := hns
      have hs1 := HS.out k s hns
      have hs2 := typeOf_size HC.out s
      clear hns hcell hrg H1 HN HO
      have hkk0 : (0 : Int) ≤ (k : Int) := by omega
      have hkk1 : (k : Int) < (n : Int) := by omega
      have k42 : Try.prog.cellsOf 42 = 23 := by kernel_rfl
      go_wp2_with (go_at_call 8; refine (zzTypeOf s a1 len1 cap1 cs _ hl1 HCR.out).mono ?_; rintro e w' ⟨rfl, rfl⟩)

      have hg' : g < wr.heap.size := by omega
      have hbw' : bn < wr.heap.size := by omega
      refine wp_region_held_drew (S := fun w' => w'.cell? ⟨bn, offn + k, none⟩ = some (.string s) ∧ w'.rangeAt g (k * 23) [.string s, .string (typeOf cs s), .bool false, .string ⟨#[]⟩, .string ⟨#[]⟩, .slice none 0 0, .slice none 0 0, .string ⟨#[]⟩, .string ⟨#[]⟩, .slice none 0 0, .slice none 0 0, .string ⟨#[]⟩, .string ⟨#[]⟩, .string ⟨#[]⟩, .int .i64 0, .int .i64 0, .int .i64 0, .int .i64 0, .int .i64 0, .bool false, .string ⟨#[]⟩, .string ⟨#[]⟩, .string ⟨#[]⟩]) (by kernel_rfl) ⟨hcell', HR.out⟩ (fun hHeld => ?_)
      refine wpAnyH_take (i := 0) (v := ?_) rfl (by kernel_rfl) (by kernel_rfl) (by kernel_rfl) (fun _ _ _ h => h) (Or.inl ⟨by rfl, ?y0⟩) hHeld ?_
      case y0 => (intro w hSw; (try dsimp only at hSw); go_simp <;> with_reducible rfl)
      simp only [Act.put, List.getElem_toArray, List.getElem_cons_zero, List.getElem_cons_succ, List.setIfInBounds_toArray, List.set_cons_zero, List.set_cons_succ]
      refine wpAnyH_take (i := 1) (v := ?_) rfl (by kernel_rfl) (by kernel_rfl) (by kernel_rfl) (fun _ _ _ h => h) (Or.inl ⟨by rfl, ?y1⟩) hHeld ?_
      case y1 => (intro w hSw; (try dsimp only at hSw); go_simp <;> with_reducible rfl)
      simp only [Act.put, List.getElem_toArray, List.getElem_cons_zero, List.getElem_cons_succ, List.setIfInBounds_toArray, List.set_cons_zero, List.set_cons_succ]
      refine wpAnyH_take (i := 2) (v := ?_) rfl (by kernel_rfl) (by kernel_rfl) (by kernel_rfl) (fun _ _ _ h => h) (Or.inl ⟨by rfl, ?y2⟩) hHeld ?_
      case y2 => (intro w hSw; (try dsimp only at hSw); go_simp <;> with_reducible rfl)
      simp only [Act.put, List.getElem_toArray, List.getElem_cons_zero, List.getElem_cons_succ, List.setIfInBounds_toArray, List.set_cons_zero, List.set_cons_succ]
      refine wpAnyH_take (i := 3) (v := _) rfl (by kernel_rfl) (by kernel_rfl) (by kernel_rfl) (fun _ _ _ h => h) (yieldsIf_load_mid (by rfl) 42 (.tmp 273) rfl g (k * 23) rfl [.string s, .string (typeOf cs s), .bool false, .string ⟨#[]⟩, .string ⟨#[]⟩, .slice none 0 0, .slice none 0 0, .string ⟨#[]⟩, .string ⟨#[]⟩, .slice none 0 0, .slice none 0 0, .string ⟨#[]⟩, .string ⟨#[]⟩, .string ⟨#[]⟩, .int .i64 0, .int .i64 0, .int .i64 0, .int .i64 0, .int .i64 0, .bool false, .string ⟨#[]⟩, .string ⟨#[]⟩, .string ⟨#[]⟩] _ (fun _ h => h.2) Try.underlying42 rfl (Try.size42 (s, typeOf cs s))) hHeld ?_
      simp only [Act.put, List.getElem_toArray, List.getElem_cons_zero, List.getElem_cons_succ, List.setIfInBounds_toArray, List.set_cons_zero, List.set_cons_succ]
      refine wpAnyH_take (i := 4) (v := ?_) rfl (by kernel_rfl) (by kernel_rfl) (by kernel_rfl) (fun _ _ _ h => h) (Or.inl ⟨by rfl, ?y4⟩) hHeld ?_
      case y4 => (intro w hSw; (try dsimp only at hSw); go_simp <;> with_reducible rfl)
      simp only [Act.put, List.getElem_toArray, List.getElem_cons_zero, List.getElem_cons_succ, List.setIfInBounds_toArray, List.set_cons_zero, List.set_cons_succ]
      refine wpAnyH_take (i := 5) (v := ?_) rfl (by kernel_rfl) (by kernel_rfl) (by kernel_rfl) (fun _ _ _ h => h) (Or.inl ⟨by rfl, ?y5⟩) hHeld ?_
      case y5 => (intro w hSw; (try dsimp only at hSw); go_simp <;> with_reducible rfl)
      simp only [Act.put, List.getElem_toArray, List.getElem_cons_zero, List.getElem_cons_succ, List.setIfInBounds_toArray, List.set_cons_zero, List.set_cons_succ]
      refine wpAnyH_take (i := 6) (v := ?_) rfl (by kernel_rfl) (by kernel_rfl) (by kernel_rfl) (fun _ _ _ h => h) (Or.inl ⟨by rfl, ?y6⟩) hHeld ?_
      case y6 => (intro w hSw; (try dsimp only at hSw); go_simp <;> with_reducible rfl)
      simp only [Act.put, List.getElem_toArray, List.getElem_cons_zero, List.getElem_cons_succ, List.setIfInBounds_toArray, List.set_cons_zero, List.set_cons_succ]
      refine wpAnyH_take (i := 7) (v := ?_) rfl (by kernel_rfl) (by kernel_rfl) (by kernel_rfl) (fun _ _ _ h => h) (Or.inl ⟨by rfl, ?y7⟩) hHeld ?_
      case y7 => (intro w hSw; (try dsimp only at hSw); go_simp <;> with_reducible rfl)
      simp only [Act.put, List.getElem_toArray, List.getElem_cons_zero, List.getElem_cons_succ, List.setIfInBounds_toArray, List.set_cons_zero, List.set_cons_succ]
      refine wpAnyH_take (i := 8) (v := ?_) rfl (by kernel_rfl) (by kernel_rfl) (by kernel_rfl) (fun _ _ _ h => h) (Or.inl ⟨by rfl, ?y8⟩) hHeld ?_
      case y8 => (intro w hSw; (try dsimp only at hSw); go_simp <;> with_reducible rfl)
      simp only [Act.put, List.getElem_toArray, List.getElem_cons_zero, List.getElem_cons_succ, List.setIfInBounds_toArray, List.set_cons_zero, List.set_cons_succ]
      refine wpAnyH_ready (rs := [9]) (by kernel_rfl) (by simp) ?_
      refine AllReadyH.cons rfl (fun K hK => ?_) AllReadyH.nil
      go_simp
      go_wp2_with (go_at_call 9; refine (plainCol s (typeOf cs s) _).mono ?_; rintro e w5 ⟨rfl, hb5⟩)
      have hb5' : Below wr.heap.size wr w5 := ⟨hb5.os, hb5.tape, hb5.output, hb5.size, hb5.block⟩
      clear hb5
      refine hK.out _ _ ?hS5 (fun hHeld => ?_)
      case hS5 => exact ⟨(hb5'.cell (p := ⟨bn, offn + k, none⟩) hbw').trans hcell', fun j x hx => (hb5'.cell (p := ⟨g, k * 23 + j, none⟩) hg').trans (HR.out j x hx)⟩
      clear hK K
      refine wpAnyH_take (i := 10) (v := ?_) rfl (by kernel_rfl) (by kernel_rfl) (by kernel_rfl) (fun _ _ _ h => h) (Or.inl ⟨by rfl, ?y10⟩) hHeld ?_
      case y10 => (intro w hSw; (try dsimp only at hSw); go_simp <;> with_reducible rfl)
      simp only [Act.put, List.getElem_toArray, List.getElem_cons_zero, List.getElem_cons_succ, List.setIfInBounds_toArray, List.set_cons_zero, List.set_cons_succ]
      refine wpAnyH_done (by kernel_rfl) ?_ _
      have h5c := hHeld.1
      have hown5 := hown.kept (grownBy_of_below hb5' none) (by by_cases e : u33.ownBlock = none; exact .inl e; exact .inr e)
      have hlen := colsText_len HC.out HS.out k (by have := HNN.out; omega)
      rw [← Lib.byteCells_length] at hlen
      have s5 := hb5'.size
      have B5 : Below w.heap.size w w5 := hbel.trans (hb5'.mono hbs)
      clear hHeld hcell' HR HCR hown hb5' hg' hbw'
      obtain ⟨i0, hi, hz0, hz1, hz2⟩ := info_parts Try.info5
      go_wp2_with (first
        | (at_builtin; refine Lib.wpList_append_own_string _ rfl (.tmp 282) (.tmp 286) 33 9 rfl w.heap.size 5 i0 Try.underlying33 Try.underlying9 hi hz0 hz1 hz2 _ _ _ rfl hown5 s rfl (by unfold maxLen; omega) (by omega) (by omega) ?_; intro v6 w6 hown6 hgrow6 _; have s6 := hgrow6.size)
        | (at_builtin; refine wpList_append_own _ rfl (.tmp 288) (.tmp 289) 33 rfl w.heap.size 5 i0 (.int .u8 0) 1 1 Try.underlying33 hi hz0 hz1 hz2 rfl (by decide) _ _ _ rfl (hown6.alloc _) ⟨w6.heap.size, 0, none⟩ 1 1 [.int .u8 0] rfl rfl (cell_one_new _ _ _) (ints_oneCell .u8 [0]) (by unfold maxLen; omega) (by omega) (by simp; omega) ?_; intro v7 w7 hown7 hgrow7 _; have s7 := hgrow7.size; simp only [World.size_alloc] at s7)
        | (at_builtin; refine Lib.wpList_append_own_string _ rfl (.tmp 291) (.tmp 292) 33 9 rfl w.heap.size 5 i0 Try.underlying33 Try.underlying9 hi hz0 hz1 hz2 _ _ _ rfl hown7 (typeOf cs s) rfl (by unfold maxLen; omega) (by omega) (by omega) ?_; intro v8 w8 hown8 hgrow8 _; have s8 := hgrow8.size)
        | (at_builtin; refine wpList_append_own _ rfl (.tmp 294) (.tmp 295) 33 rfl w.heap.size 5 i0 (.int .u8 0) 1 1 Try.underlying33 hi hz0 hz1 hz2 rfl (by decide) _ _ _ rfl (hown8.alloc _) ⟨w8.heap.size, 0, none⟩ 1 1 [.int .u8 0] rfl rfl (cell_one_new _ _ _) (ints_oneCell .u8 [0]) (by unfold maxLen; omega) (by omega) (by simp; omega) ?_; intro v9 w9 hown9 hgrow9 _))
      go_roundw
      case rel =>
        refine ⟨k + 1, by omega, by go_num, bytes_done HSK.out hown9, ?_⟩
        have B6 := B5.grown hgrow6 (by omega) (fun j hj => (hown5.lt j hj).1)
        have B7 := (B6.alloc (by omega) _).grown hgrow7 (by simp; omega) (fun j hj => (hown6.lt j hj).1)
        have B8 := B7.grown hgrow8 (by omega) (fun j hj => (hown7.lt j hj).1)
        exact (B8.alloc (by omega) _).grown hgrow9 (by simp; omega) (fun j hj => (hown8.lt j hj).1)
      case measure => simp [intOf]; omega
    · have hkk : k = names.length := by have := HNN.out; omega
      rw [hkk, List.take_of_length_le (Nat.le_refl _), Lib.byteCells_length] at hown
      have hfin : Below w0.heap.size w0 wr := hB.trans (hbel.mono hB.size)
      have HCV : Hid (∃ ao cap, u33 = .slice ao (colsText cs names).length cap ∧ (convert 33 9 (.slice ao (colsText cs names).length cap)).run Try.prog wr = .ok (.string ⟨(colsText cs names).toArray⟩) wr) := conv_done hown
      obtain ⟨ao', cap', rfl, hcv⟩ := HCV.out
      obtain ⟨L, hL⟩ : ∃ L, L = (colsText cs names).length := ⟨_, rfl⟩
      obtain ⟨T, hT⟩ : ∃ T : ByteArray, T = ⟨(colsText cs names).toArray⟩ := ⟨_, rfl⟩
      rw [← hL, ← hT] at hcv
      rw [← hL, ← hT]
      clear hown hkk HCV H1 HN HO HC HS hL hT
      go_wp2
      go_ret
      exact ⟨by simp, hfin⟩

end Go.Proofs.Qxb6615940a
