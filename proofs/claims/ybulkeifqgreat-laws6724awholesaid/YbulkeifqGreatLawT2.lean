/-
  THE LAW, from its own model on (region 32): the walk.
-/
import Derived.Test.YbulkeifqGreatLawT3
import Derived.Test.YbulkeifqGreatLawMid
import Derived.Deep.RegionLaw
import Derived.RegionTactic
import Derived.Deep.AppendLies
import Derived.Maps.AppendAt
namespace Go.Proofs.YbulkeifqGreat
open Go.RowKit Go.Maps
set_option linter.unusedVariables false

theorem info82 : (Ybaz.prog.info? 82).map (fun i => (i.zero, i.size, i.bytes)) = some (some (.slice none 0 0), 1, 24) := by kernel_rfl
theorem zero80 : Ybaz.zeroCells80 = Array.replicate 256 (.int .i64 0) := by kernel_rfl

set_option maxRecDepth 1000000 in
set_option maxHeartbeats 4000000 in
theorem law_t2 {w0 w : World} {a0 : Option Addr} {cap b off B M I GV CV SV E0 : Nat} {us : List Int} {cur : Value} {n stop sel : Nat} {cc op rg : Int} {Ts : List TR} {K : Nat → Nat} {V : Nat → Int} {KK : Act → World → Prop}
    {c1 c2 c3 c4 c5 c6 c9 c10 c11 c12 c13 c15 c16 c17 c18 c21 c22 c24 c25 c26 c27 c28 c29 c30 c31 c32 c33 c34 c35 c36 c37 c38 c39 c40 c41 c42 c43 c44 c45 c46 c47 c48 c49 c50 c51 c52 c53 c54 c55 c56 c57 c58 c59 c60 c61 c62 c63 c64 c65 c66 c67 c68 c69 c70 c71 c72 c73 c74 c75 c76 c77 c78 c79 c80 c81 c82 c83 c84 c85 c86 c87 c88 c89 c90 c91 c92 c93 c94 c95 c96 c97 c98 c99 c100 c101 c102 c103 c104 c105 c106 c107 c108 c109 c110 c111 c112 c113 c114 c115 c116 c117 c118 c119 c120 c121 c122 c123 c124 c125 c126 c127 c128 c129 c130 c131 c132 c133 c134 c135 c136 c137 c138 c139 c140 c141 c142 c143 c144 c145 c146 c147 c148 c149 c150 c151 c152 c153 c154 c155 c156 c157 c158 c159 c160 c161 c162 c163 c164 c165 c166 c167 c168 c169 c170 c171 c172 c173 c174 c175 c176 c177 c178 c179 c180 c181 c182 c183 c184 c185 c186 c187 c188 c189 c190 c191 c192 c193 c194 c195 c196 c197 c198 c199 c200 c201 c202 c203 c204 c205 c206 c207 c208 c209 c210 c211 c212 c213 c214 c215 c216 c217 c218 c219 c220 c221 c222 c223 c224 c225 c226 c227 c228 c229 c230 c231 c232 c233 c234 c235 c236 c237 c238 c239 c240 c241 c242 c243 c244 c245 c246 c247 c248 c249 c250 c251 c252 c253 c254 c255 c256 c257 c258 c259 c260 c261 c262 c263 c264 c265 c266 c267 c268 c269 c270 c271 c272 c273 c274 c275 c276 c277 c278 c279 c280 c281 c282 c283 c284 c285 c286 c287 c288 : Value}
    (hA : 0 < n → a0 = some ⟨b, off, none⟩)
    (hc : ∀ i, i < n → w0.cell? ⟨b, off + i * 2, none⟩ = some (.int .u8 (K i)) ∧ w0.cell? ⟨b, off + i * 2 + 1, none⟩ = some (.int .i64 (V i))) (hKb : ∀ i, i < n → K i < 256) (hn : n ≤ 1048576)
    (hM : Mach w B M I us cur (n : Int)) (hE : ESt w GV CV SV E0 stop cc Ts) (hT : ∀ (j : Nat) (t : TR), Ts[j]? = some t → ∃ p : Nat × List Int, (gv K V n)[j]? = some p ∧ t.a < us.length ∧ t.b < us.length ∧ us.getD t.a 0 = (p.1 : Int) ∧ WantOK op rg p.2 (us.getD t.b 0)) (hsel : SelOK sel op rg) (hb : Below w0.heap.size w0 w) (hlen : Ts.length = min (stop + 1) (gv K V n).length) (hst : stop ≤ 255)
    (hK : ∀ a w, Code.wp Ybaz.prog (dropS 20 bodyC) (lawPost w0) a w → KK a w) :
    Code.wp Ybaz.prog (headS (dropS 19 bodyC)) (Exit.then KK (lawPost w0)) ⟨#[.slice a0 n cap, c1, c2, c3, c4, c5, c6, .pointer (some ⟨M, 0, none⟩), .int .i64 n, c9, c10, c11, c12, c13, .int .i64 sel, c15, c16, c17, c18, .pointer (some ⟨SV, 0, none⟩), .pointer (some ⟨GV, 0, none⟩), c21, c22, .bool (decide ((gv K V n).length ≤ stop)), c24, c25, c26, c27, c28, c29, c30, c31, c32, c33, c34, c35, c36, c37, c38, c39, c40, c41, c42, c43, c44, c45, c46, c47, c48, c49, c50, c51, c52, c53, c54, c55, c56, c57, c58, c59, c60, c61, c62, c63, c64, c65, c66, c67, c68, c69, c70, c71, c72, c73, c74, c75, c76, c77, c78, c79, c80, c81, c82, c83, c84, c85, c86, c87, c88, c89, c90, c91, c92, c93, c94, c95, c96, c97, c98, c99, c100, c101, c102, c103, c104, c105, c106, c107, c108, c109, c110, c111, c112, c113, c114, c115, c116, c117, c118, c119, c120, c121, c122, c123, c124, c125, c126, c127, c128, c129, c130, c131, c132, c133, c134, c135, c136, c137, c138, c139, c140, c141, c142, c143, c144, c145, c146, c147, c148, c149, c150, c151, c152, c153, c154, c155, c156, c157, c158, c159, c160, c161, c162, c163, c164, c165, c166, c167, c168, c169, c170, c171, c172, c173, c174, c175, c176, c177, c178, c179, c180, c181, c182, c183, c184, c185, c186, c187, c188, c189, c190, c191, c192, c193, c194, c195, c196, c197, c198, c199, c200, c201, c202, c203, c204, c205, c206, c207, c208, c209, c210, c211, c212, c213, c214, c215, c216, c217, c218, c219, c220, c221, c222, c223, c224, c225, c226, c227, c228, c229, c230, c231, c232, c233, c234, c235, c236, c237, c238, c239, c240, c241, c242, c243, c244, c245, c246, c247, c248, c249, c250, c251, c252, c253, c254, c255, c256, c257, c258, c259, c260, c261, c262, c263, c264, c265, c266, c267, c268, c269, c270, c271, c272, c273, c274, c275, c276, c277, c278, c279, c280, c281, c282, c283, c284, c285, c286, c287, c288], []⟩ w := by
  conv => arg 2; whnf
  conv at hK => enter [a, w, 1, 2]; whnf
  have HA := hid' (And.intro hA (And.intro hc hKb))
  have HT := hid' (And.intro hM (And.intro hE (And.intro hT (And.intro hsel (And.intro hlen hst)))))
  have Hb := hid' hb
  clear hA hc hKb hM hE hT hsel hlen hst hb
  go_upto_block 3 with fail
  obtain ⟨X, hX⟩ : ∃ X, X = w.alloc (.cells Ybaz.zeroCells80 80) := ⟨_, rfl⟩
  have HX := hid' (And.intro (MSt.new (X := X) (B := w.heap.size) rfl (by rw [hX, zero80])) (by rw [hX]; exact (Below.refl _ _).alloc (Nat.le_refl _) _ : Below w.heap.size w X))
  rw [← hX]
  clear hX
  go_wp2_with fail
  go_loopw [24, 26, 123] (fun kv vv i wr => ∃ (q : Nat) (S : List Value) (c : Nat → Nat), i = .int .i64 q ∧ q ≤ n ∧ Hid (MSt wr w.heap.size w.heap.size kv vv ((gv K V q).map Prod.fst) ((gv K V q).map Prod.snd) c S) ∧ Hid (Below w.heap.size w wr)) (fun kv vv i _ => n - (intOf i).toNat)
  case atStart => exact ⟨0, [], _, rfl, Nat.zero_le _, hid' HX.out.1, hid' HX.out.2⟩
  case round =>
    obtain ⟨q, S, c, rfl, hqn, Hm, Hbr⟩ := hrel
    clear HX
    by_cases hlt : q < n
    · have hlt' : (q : Int) < (n : Int) := by omega
      obtain ⟨hA, hc, hKb⟩ := HA.out
      obtain rfl := hA (by omega)
      obtain ⟨r1, r2⟩ := hc q hlt
      have hKq := hKb q hlt
      have hKq' : (K q : Int) < 256 := by omega
      have hbw := Hb.out.trans (Hbr.out.mono Hb.out.size)
      have r1 := cell_later hbw r1
      have r2 := cell_later hbw r2
      have hB := Hbr.out.size
      clear hA hc hKb hbw
      go_upto_region 38 with fail
      obtain ⟨W1, hW1⟩ : ∃ W1, W1 = wr.alloc (.cells #[.int .u8 (K q : Int), .int .i64 (V q)] 34) := ⟨_, rfl⟩
      have hb1 : Below wr.heap.size wr W1 := by rw [hW1]; exact (Below.refl _ _).alloc (Nat.le_refl _) _
      have x34 : W1.heap[wr.heap.size]? = some (.cells #[.int .u8 (K q : Int), .int .i64 (V q)] 34 (0, 0)) := by rw [hW1]; exact alloc_new _ _
      rw [← hW1]
      clear hW1 r1 r2
      have cK : W1.cell? ⟨wr.heap.size, 0, none⟩ = some (.int .u8 (K q : Int)) := by rw [cell_blk x34]; rfl
      have lK := lt_blk x34
      have H34 := hid' x34
      clear x34
      have Hm1 := hid' (Hm.out.below hb1)
      have Hb1 := hid' hb1
      have hs1 := hb1.size
      clear hb1 Hm
      obtain ⟨cs, i1, i2, i3⟩ := Hm1.out.idx
      have cI : W1.cell? ⟨w.heap.size, K q, none⟩ = some (.int .i64 (c (K q) : Nat)) := by rw [cell_blk i1]; exact i3 _ hKq
      have lI := lt_blk i1
      clear i1 i2 i3
      have hgl := (gv_len (K := K) (V := V) q).2
      obtain ⟨G, hG⟩ : ∃ G, G = gv K V q := ⟨_, rfl⟩
      rw [← hG] at Hm1 hgl
      have HG : Hid (gv K V (q + 1) = ins (K q) (V q) G) := hid' (by rw [hG]; rfl)
      clear hG
      go_upto_if 131 with fail
      go_cut [24, 26, 123] from 123 to 161 (fun kv vv i wd => i = .int .i64 q ∧ ∃ (S : List Value) (c : Nat → Nat) (j : Nat) (zs : List Int), Hid (MMid wd w.heap.size w.heap.size kv vv (K q) (V q) (gv K V (q + 1)) c S j zs) ∧ Hid (wd.heap[wr.heap.size]? = some (.cells #[.int .u8 (K q : Int), .int .i64 (V q)] 34 (0, 0))) ∧ Hid (Below w.heap.size W1 wd))
      case first =>
        by_cases h0 : c (K q) = 0
        · have hb0 : (((c (K q) : Nat) : Int) == 0) = true := by simp [h0]
          have hko : W1.ownsRow w.heap.size 5 1 u24 G.length ((G.map Prod.fst).map fun k : Nat => Value.int .u8 (k : Int)) := by have := Hm1.out.keys; rwa [List.length_map] at this
          have hSl : S.length = G.length := by have := Hm1.out.len.1; simpa using this
          obtain ⟨ko, kcap, rfl, hkc, _⟩ := ownsRow_shape hko
          obtain ⟨vo, vcap, rfl, hvc, _⟩ := ownsRow_shape Hm1.out.vals
          have HSl := hid' hSl
          rw [hSl] at Hm1 hvc ⊢
          clear hSl
          obtain ⟨i5, hi5, hz50, hz51, hz52⟩ := info_parts info5
          obtain ⟨i8, hi8, hz80, hz81, hz82⟩ := info_parts info82
          have Hko := hid' hko
          have H0 := hid' h0
          clear hko
          go_wp2_with (first | (at_builtin; refine wpList_append_own_at _ rfl _ _ 79 rfl w.heap.size 5 i5 (.int .u8 0) 1 1 Ybaz.underlying79 hi5 hz50 hz51 hz52 rfl (by decide) (.slice ko G.length kcap) G.length _ rfl (Hko.out.alloc _) ⟨W1.heap.size, 0, none⟩ 1 1 [.int .u8 (K q : Int)] rfl rfl (cell_one_new _ _ _) (by simp [Value.oneCell']) (by unfold maxLen; omega) (by omega) (by simp; omega) ?_; intro kv' w2 own2 g2 hn2 hat2; obtain ⟨ko2, kcap2, rfl, hkc2, _⟩ := ownsRow_shape own2; have hv2 := Hm1.out.vals1 g2; rw [HSl.out] at hv2; have Hv2 := hid' hv2; have hs2 : W1.heap.size ≤ w2.heap.size := (by have := g2.size; simp at this; omega); have H2 := hid' (And.intro own2 g2); clear own2 g2 hn2 hat2 hv2) | (at_builtin; refine wpList_append_own_at _ rfl _ _ 81 rfl w.heap.size 82 i8 (.slice none 0 0) 1 24 Ybaz.underlying81 hi8 hz80 hz81 hz82 rfl (by decide) (.slice vo G.length vcap) G.length S rfl (Hv2.out.alloc _) ⟨w2.heap.size, 0, none⟩ 1 1 [.slice none 0 0] rfl rfl (cell_one_new _ _ _) (by simp [Value.oneCell']) (by unfold maxLen; omega) (by omega) (by simp; omega) ?_; intro vv' w3 own3 g3 hn3 hat3; obtain ⟨vo3, vcap3, rfl, hvc3, _⟩ := ownsRow_shape own3; obtain ⟨y34, ci, y80, yi⟩ := Hm1.out.mid3 H2.out.2 g3 H34.out; have d34 : w3.cell? ⟨wr.heap.size, 0, none⟩ = some (.int .u8 (K q : Int)) := (by rw [cell_blk y34]; rfl); have d80 : w3.cell? ⟨w.heap.size, K q, none⟩ = some (.int .i64 (c (K q) : Nat)) := (by rw [cell_blk y80]; exact yi _ hKq); have f80 := free_blk y80 (K q); have l80 := lt_blk y80; have l34 := lt_blk y34; have H3 := hid' (And.intro own3 (And.intro g3 (And.intro y34 y80))); clear own3 g3 hn3 hat3 y34 y80 yi))
          have e1 : ((G.length : Int) + 1) = ((G.length + 1 : Nat) : Int) := by omega
          rw [e1]
          obtain ⟨⟨c', hmid⟩, hbel⟩ := Hm1.out.mid (v := V q) hKq H0.out (by omega) H2.out.1 H2.out.2 H3.out.1 H3.out.2.1
          rw [← HG.out] at hmid
          go_meet
          exact ⟨rfl, _, c', G.length, [], hid' hmid, hid' ((set_other (ne_blk H3.out.2.2.1 H3.out.2.2.2 (by decide)) _ _).trans H3.out.2.2.1), hid' hbel⟩
        · have hb0 : (((c (K q) : Nat) : Int) == 0) = false := by simp [h0]
          obtain ⟨zs, hmid⟩ := Hm1.out.hit (v := V q) hKq h0
          rw [← HG.out] at hmid
          have Hmid := hid' hmid
          clear hmid
          go_wp2_with fail
          go_meet
          exact ⟨rfl, S, c, _, zs, Hmid, H34, hid' (Below.refl _ _)⟩
      case rest =>
        obtain ⟨rfl, S2, c2, j, zs, Hmid, Hbx, Hbd⟩ := hcut
        clear cI lI cK lK
        obtain ⟨s, vb, vcap, rfl, hs, cI, cS, _, lI, lV, hjS, hSG, cv, hcv⟩ := Hmid.out.cells hKq
        have HmD := hid' (Hmid.out.below (Below.refl _ wc).drew)
        obtain ⟨_, _, _, -, hs', -, -, hown, -⟩ := HmD.out.cells hKq
        rw [hs] at hs'
        cases hs'
        obtain ⟨so, scap, rfl, hsc, _⟩ := ownsRow_shape hown
        have hzl := Hmid.out.zlen (N := q) (fun p hp => (gv_len (K := K) (V := V) (q + 1)).1 p hp)
        have hgl2 := (gv_len (K := K) (V := V) (q + 1)).2
        have cK : wc.cell? ⟨wr.heap.size, 0, none⟩ = some (.int .u8 (K q : Int)) := by rw [cell_blk Hbx.out]; rfl
        have cV : wc.cell? ⟨wr.heap.size, 1, none⟩ = some (.int .i64 (V q)) := by rw [cell_blk Hbx.out]; rfl
        have lK := lt_blk Hbx.out
        have hj1 : ((j + 1 : Nat) : Int) = (j : Int) + 1 := by omega
        rw [hj1] at cI
        have hjS' : (j : Int) < (S2.length : Int) := by omega
        have hS2 : S2.length ≤ 1048577 := by omega
        have HSG := hid' hSG
        clear hSG
        have Hown := hid' hown
        have Hcv := hid' hcv
        have Hs := hid' hs
        have hsd := Hbd.out.size
        obtain ⟨i2, hi2, hz20, hz21, hz22⟩ := info_parts info2
        clear hown hcv hs hj1
        go_wp2_with fail
        go_region_law (first | (refine step_append_lies _ (by rfl) _ _ 82 (by rfl) w.heap.size 2 i2 (.int .i64 0) 1 8 Ybaz.underlying82 hi2 hz20 hz21 hz22 rfl (by decide) _ zs.length (zs.map (Value.int .i64)) (by rfl) (Hown.out.alloc _) ⟨wc.heap.size, 0, none⟩ 1 1 [.int .i64 (V q)] (by rfl) rfl (World.news_of_block (heap_alloc_new _ _)) (by simp [Value.oneCell']) (by omega) (by unfold maxLen; omega) (by omega) (by simp; omega) (wc.heap.size + 1) (by simp) ?_; intro g10 cap10 w10 own10 grow10 hat10 hlt10; have y82 : w10.heap[vb]? = some (.cells cv 82 (0, 0)) := grown_keep grow10 (alloc_old _ (show wc.drew.heap[vb]? = _ from Hcv.out)) (fun k hk => (by obtain ⟨_, cs, hcs⟩ := own_row Hown.out k hk; exact ⟨cs, 2, (0, 0), alloc_old _ hcs, by decide⟩)); have c82 : w10.cell? ⟨vb, j, none⟩ = some (.slice so zs.length scap) := (by rw [cell_blk y82, ← cell_blk Hcv.out]; exact cS); have f82 := free_blk y82 j; have l82 := lt_blk y82; have H10 := hid' (And.intro own10 (And.intro grow10 hat10)); clear own10 grow10 hat10 y82))
        all_goals
          go_wp2
          obtain ⟨⟨c3, S3, hfin⟩, hbfin⟩ := HmD.out.push (by show w.heap.size ≤ wc.heap.size; omega) Hs.out H10.out.1 H10.out.2.1 (by rcases H10.out.2.2 with h | h; exact .inl h; exact .inr (by show wc.heap.size ≤ _; omega))
          refine ⟨⟨q + 1, S3, c3, rfl, hlt, hid' hfin, hid' (Hbr.out.trans ((Hb1.out.mono hB).trans (Hbd.out.trans (((Below.refl _ _).drew).trans hbfin))))⟩, ?_⟩
          simp [intOf]
          omega
    · have hlt' : ¬ (q : Int) < (n : Int) := by omega
      obtain rfl : q = n := by omega
      go_upto_region 45 with fail
      exact law_t3 (law_state hn HT.out Hm.out Hbr.out) (Hb.out.trans (Hbr.out.mono Hb.out.size)) HT.out.2.2.2.2.1 HT.out.2.2.2.2.2 (by assumption)
end Go.Proofs.YbulkeifqGreat
