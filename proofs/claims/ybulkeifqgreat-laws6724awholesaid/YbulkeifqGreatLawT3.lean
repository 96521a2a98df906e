/-
  THE LAW, from its last tests on (region 45): the walk.
-/
import Derived.Test.YbulkeifqGreatLawT4
namespace Go.Proofs.YbulkeifqGreat
open Go.RowKit Go.Maps
set_option linter.unusedVariables false

set_option maxRecDepth 1000000 in
set_option maxHeartbeats 4000000 in
theorem law_t3 {w0 w : World} {B M I GV CV SV E0 B2 IX : Nat} {us : List Int} {cur : Value} {n stop sel : Nat} {c op rg : Int} {Ts : List TR} {G : List (Nat × List Int)} {kv vv : Value} {cc : Nat → Nat} {S : List Value} {K : Act → World → Prop}
    {c0 c1 c2 c3 c4 c5 c6 c9 c10 c11 c12 c13 c15 c16 c17 c18 c21 c22 c25 c27 c28 c29 c30 c31 c32 c33 c34 c35 c36 c37 c38 c39 c40 c41 c42 c43 c44 c45 c46 c47 c48 c49 c50 c51 c52 c53 c54 c55 c56 c57 c58 c59 c60 c61 c62 c63 c64 c65 c66 c67 c68 c69 c70 c71 c72 c73 c74 c75 c76 c77 c78 c79 c80 c81 c82 c83 c84 c85 c86 c87 c88 c89 c90 c91 c92 c93 c94 c95 c96 c97 c98 c99 c100 c101 c102 c103 c104 c105 c106 c107 c108 c109 c110 c111 c112 c113 c114 c115 c116 c117 c118 c119 c120 c121 c122 c123 c124 c125 c126 c127 c128 c129 c130 c131 c132 c133 c134 c135 c136 c137 c138 c139 c140 c141 c142 c143 c144 c145 c146 c147 c148 c149 c150 c151 c152 c153 c154 c155 c156 c157 c158 c159 c160 c161 c162 c163 c164 c165 c166 c167 c168 c169 c170 c171 c172 c173 c174 c175 c176 c177 c178 c179 c180 c181 c182 c183 c184 c185 c186 c187 c188 c189 c190 c191 c192 c193 c194 c195 c196 c197 c198 c199 c200 c201 c202 c203 c204 c205 c206 c207 c208 c209 c210 c211 c212 c213 c214 c215 c216 c217 c218 c219 c220 c221 c222 c223 c224 c225 c226 c227 c228 c229 c230 c231 c232 c233 c234 c235 c236 c237 c238 c239 c240 c241 c242 c243 c244 c245 c246 c247 c248 c249 c250 c251 c252 c253 c254 c255 c256 c257 c258 c259 c260 c261 c262 c263 c264 c265 c266 c267 c268 c269 c270 c271 c272 c273 c274 c275 c276 c277 c278 c279 c280 c281 c282 c283 c284 c285 c286 c287 c288 : Value}
    (h : LSt4 w B M I GV CV SV E0 B2 IX us cur n stop sel c op rg Ts G kv vv cc S) (hb : Below w0.heap.size w0 w) (hlen : Ts.length = min (stop + 1) G.length) (hst : stop ≤ 255)
    (hK : ∀ a w, Code.wp Ybaz.prog (dropS 24 bodyC) (lawPost w0) a w → K a w) :
    Code.wp Ybaz.prog (headS (dropS 23 bodyC)) (Exit.then K (lawPost w0)) ⟨#[c0, c1, c2, c3, c4, c5, c6, .pointer (some ⟨M, 0, none⟩), .int .i64 n, c9, c10, c11, c12, c13, .int .i64 sel, c15, c16, c17, c18, .pointer (some ⟨SV, 0, none⟩), .pointer (some ⟨GV, 0, none⟩), c21, c22, .bool (decide (G.length ≤ stop)), kv, c25, vv, c27, c28, c29, c30, c31, c32, c33, c34, c35, c36, c37, c38, c39, c40, c41, c42, c43, c44, c45, c46, c47, c48, c49, c50, c51, c52, c53, c54, c55, c56, c57, c58, c59, c60, c61, c62, c63, c64, c65, c66, c67, c68, c69, c70, c71, c72, c73, c74, c75, c76, c77, c78, c79, c80, c81, c82, c83, c84, c85, c86, c87, c88, c89, c90, c91, c92, c93, c94, c95, c96, c97, c98, c99, c100, c101, c102, c103, c104, c105, c106, c107, c108, c109, c110, c111, c112, c113, c114, c115, c116, c117, c118, c119, c120, c121, c122, c123, c124, c125, c126, c127, c128, c129, c130, c131, c132, c133, c134, c135, c136, c137, c138, c139, c140, c141, c142, c143, c144, c145, c146, c147, c148, c149, c150, c151, c152, c153, c154, c155, c156, c157, c158, c159, c160, c161, c162, c163, c164, c165, c166, c167, c168, c169, c170, c171, c172, c173, c174, c175, c176, c177, c178, c179, c180, c181, c182, c183, c184, c185, c186, c187, c188, c189, c190, c191, c192, c193, c194, c195, c196, c197, c198, c199, c200, c201, c202, c203, c204, c205, c206, c207, c208, c209, c210, c211, c212, c213, c214, c215, c216, c217, c218, c219, c220, c221, c222, c223, c224, c225, c226, c227, c228, c229, c230, c231, c232, c233, c234, c235, c236, c237, c238, c239, c240, c241, c242, c243, c244, c245, c246, c247, c248, c249, c250, c251, c252, c253, c254, c255, c256, c257, c258, c259, c260, c261, c262, c263, c264, c265, c266, c267, c268, c269, c270, c271, c272, c273, c274, c275, c276, c277, c278, c279, c280, c281, c282, c283, c284, c285, c286, c287, c288], []⟩ w := by
  conv => arg 2; whnf
  conv at hK => enter [a, w, 1, 2]; whnf
  obtain ⟨ko, kcap, hkv, hkc, _⟩ := ownsRow_shape h.mst.keys
  rw [List.length_map] at hkv
  subst hkv
  have hgl := h.glen
  have v0 : w.cell? ⟨SV, 0, none⟩ = some (.int .i64 stop) := by rw [cell_blk h.est.stop]; rfl
  have H := hid' h
  have Hb := hid' hb
  have Hlen := hid' hlen
  clear h hb hlen
  by_cases hlt : stop < G.length
  · have hlt' : (stop : Int) < (G.length : Int) := by omega
    have hd : decide (G.length ≤ stop) = false := decide_eq_false (by omega)
    have hl1 : Ts.length = stop + 1 := by have := Hlen.out; omega
    have hl2 : ((stop : Int) + 1) = (Ts.length : Int) := by omega
    have Hl2 := hid' hl2
    clear hl1 hl2
    go_upto_region 50 with fail
    rw [Hl2.out]
    exact law_t4 H.out Hb.out (by assumption) (by assumption)
  · have hlt' : ¬ (stop : Int) < (G.length : Int) := by omega
    have hd : decide (G.length ≤ stop) = true := decide_eq_true (by omega)
    have hl1 : Ts.length = G.length := by have := Hlen.out; omega
    have hl2 : (G.length : Int) = (Ts.length : Int) := by omega
    have Hl2 := hid' hl2
    clear hl1 hl2
    go_upto_region 50 with fail
    rw [Hl2.out]
    exact law_t4 H.out Hb.out (by assumption) (by assumption)
end Go.Proofs.YbulkeifqGreat
