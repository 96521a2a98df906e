/-
  THE LAW, from its test on (region 50): the walk.
-/
import Derived.Test.YbulkeifqGreatLawLast
import Derived.WalkKit
import Derived.WalkSpells
import Derived.WalkLawsBesides
import Derived.Deep.QuietTactic
import Derived.BigQuiet
import Derived.Deep.RegionWith
import Derived.Deep.RegionHeld3
import Derived.Deep.DeepCutAuto
import Derived.Deep.CutBlock
import Derived.Deep.CutRange
namespace Go.Proofs.YbulkeifqGreat
open Go.RowKit Go.Maps
set_option linter.unusedVariables false

set_option maxRecDepth 1000000 in
set_option maxHeartbeats 4000000 in
theorem law_t4 {w0 w : World} {B M I GV CV SV E0 B2 IX : Nat} {us : List Int} {cur : Value} {n stop sel : Nat} {c op rg : Int} {Ts : List TR} {G : List (Nat × List Int)} {kv vv : Value} {cc : Nat → Nat} {S : List Value} {okb : Bool} {K1 K2 : Act → World → Prop}
    {c0 c1 c2 c3 c4 c5 c6 c9 c10 c11 c12 c13 c15 c16 c17 c18 c19 c21 c22 c25 c27 c28 c29 c32 c33 c34 c35 c36 c37 c38 c39 c40 c41 c42 c43 c44 c45 c46 c47 c48 c49 c50 c51 c52 c53 c54 c55 c56 c57 c58 c59 c60 c61 c62 c63 c64 c65 c66 c67 c68 c69 c70 c71 c72 c73 c74 c75 c76 c77 c78 c79 c80 c81 c82 c83 c84 c85 c86 c87 c88 c89 c90 c91 c92 c93 c94 c95 c96 c97 c98 c99 c100 c101 c102 c103 c104 c105 c106 c107 c108 c109 c110 c111 c112 c113 c114 c115 c116 c117 c118 c119 c120 c121 c122 c123 c124 c125 c126 c127 c128 c129 c130 c131 c132 c133 c134 c135 c136 c137 c138 c139 c140 c141 c142 c143 c144 c145 c146 c147 c148 c149 c150 c151 c152 c153 c154 c155 c156 c157 c158 c159 c160 c161 c162 c163 c164 c165 c166 c167 c168 c169 c170 c171 c172 c173 c174 c175 c176 c177 c178 c179 c180 c181 c182 c183 c184 c185 c186 c187 c188 c189 c190 c191 c192 c193 c194 c195 c196 c197 c198 c199 c200 c201 c202 c203 c204 c205 c206 c207 c208 c209 c210 c211 c212 c213 c214 c215 c216 c217 c218 c219 c220 c221 c222 c223 c224 c225 c226 c227 c228 c229 c230 c231 c232 c233 c234 c235 c236 c237 c238 c239 c240 c241 c242 c243 c244 c245 c246 c247 c248 c249 c250 c251 c252 c253 c254 c255 c256 c257 c258 c259 c260 c261 c262 c263 c264 c265 c266 c267 c268 c269 c270 c271 c272 c273 c274 c275 c276 c277 c278 c279 c280 c281 c282 c283 c284 c285 c286 c287 c288 : Value}
    (h : LSt4 w B M I GV CV SV E0 B2 IX us cur n stop sel c op rg Ts G kv vv cc S) (hb : Below w0.heap.size w0 w)
    (hK1 : ∀ a w, Code.wp Ybaz.prog (dropS 27 bodyC) (lawPost w0) a w → K1 a w) (hK2 : ∀ a w, Code.wp Ybaz.prog (tailS (headS (dropS 26 bodyC))) (Exit.then K1 (lawPost w0)) a w → K2 a w) :
    Code.wp Ybaz.prog (headS (headS (dropS 26 bodyC))) (Exit.then K2 (Exit.then K1 (lawPost w0))) ⟨#[c0, c1, c2, c3, c4, c5, c6, .pointer (some ⟨M, 0, none⟩), .int .i64 n, c9, c10, c11, c12, c13, .int .i64 sel, c15, c16, c17, c18, c19, .pointer (some ⟨GV, 0, none⟩), c21, c22, .bool okb, kv, c25, vv, c27, c28, c29, .int .i64 Ts.length, .bool okb, c32, c33, c34, c35, c36, c37, c38, c39, c40, c41, c42, c43, c44, c45, c46, c47, c48, c49, c50, c51, c52, c53, c54, c55, c56, c57, c58, c59, c60, c61, c62, c63, c64, c65, c66, c67, c68, c69, c70, c71, c72, c73, c74, c75, c76, c77, c78, c79, c80, c81, c82, c83, c84, c85, c86, c87, c88, c89, c90, c91, c92, c93, c94, c95, c96, c97, c98, c99, c100, c101, c102, c103, c104, c105, c106, c107, c108, c109, c110, c111, c112, c113, c114, c115, c116, c117, c118, c119, c120, c121, c122, c123, c124, c125, c126, c127, c128, c129, c130, c131, c132, c133, c134, c135, c136, c137, c138, c139, c140, c141, c142, c143, c144, c145, c146, c147, c148, c149, c150, c151, c152, c153, c154, c155, c156, c157, c158, c159, c160, c161, c162, c163, c164, c165, c166, c167, c168, c169, c170, c171, c172, c173, c174, c175, c176, c177, c178, c179, c180, c181, c182, c183, c184, c185, c186, c187, c188, c189, c190, c191, c192, c193, c194, c195, c196, c197, c198, c199, c200, c201, c202, c203, c204, c205, c206, c207, c208, c209, c210, c211, c212, c213, c214, c215, c216, c217, c218, c219, c220, c221, c222, c223, c224, c225, c226, c227, c228, c229, c230, c231, c232, c233, c234, c235, c236, c237, c238, c239, c240, c241, c242, c243, c244, c245, c246, c247, c248, c249, c250, c251, c252, c253, c254, c255, c256, c257, c258, c259, c260, c261, c262, c263, c264, c265, c266, c267, c268, c269, c270, c271, c272, c273, c274, c275, c276, c277, c278, c279, c280, c281, c282, c283, c284, c285, c286, c287, c288], []⟩ w := by
  conv => arg 2; whnf
  conv at hK1 => enter [a, w, 1, 2]; whnf
  conv at hK2 => enter [a, w, 1, 2]; whnf
  obtain ⟨Q, hQ⟩ : ∃ Q, Q = lawPost w0 := ⟨_, rfl⟩
  rw [← hQ] at hK1 hK2 ⊢
  have HQ := hid' hQ
  clear hQ
  obtain ⟨gv, hG, hown⟩ := h.est.got
  obtain ⟨go, gcap, rfl, hgc, hgo⟩ := ownsRow_shape hown
  obtain ⟨mv, hM, hMo⟩ := h.mach.blk
  have g0 : w.cell? ⟨GV, 0, none⟩ = some (.slice go Ts.length gcap) := by rw [cell_blk hG]; rfl
  have m10 : w.cell? ⟨M, 10, none⟩ = some (.int .i64 n) := by rw [cell_blk hM]; rfl
  have m11 : w.cell? ⟨M, 11, none⟩ = some (.int .i64 0) := by rw [cell_blk hM]; rfl
  have H := hid' h
  have Hb := hid' hb
  clear h hb hG hown hgo hM hMo
  go_wp2
  go_loopw [32] (fun i wr => ∃ j : Nat, i = .int .i64 j ∧ j ≤ Ts.length ∧ Hid (LSt4 wr B M I GV CV SV E0 B2 IX us cur n stop sel c op rg Ts G kv vv cc S) ∧ Hid (Below w0.heap.size w0 wr)) (fun i _ => Ts.length - (intOf i).toNat)
  case atStart => exact ⟨0, rfl, Nat.zero_le _, H, Hb⟩
  case round =>
    obtain ⟨j, rfl, hjl, Hr, Hbr⟩ := hrel
    clear g0 m10 m11 hgc
    have hl1 := H.out.len
    have hl2 := H.out.glen
    clear H Hb
    by_cases hlt : j < Ts.length
    · obtain ⟨t, p, gg, gcap, vb, mcap, kb, kcap, ob, ocap, sb, scap, g0, g1, t0, t1, m1, ⟨a0, a1, a2⟩, ⟨b0, b1, b2⟩, rfl, k0, rfl, o0, s0, ha, hb, hw, hp0, hp1, hul, hjG, hpk⟩ := Hr.out.at hlt
      have hlt' : (j : Int) < (Ts.length : Int) := by omega
      have hjG' : (j : Int) < (G.length : Int) := by omega
      have ha' : (t.a : Int) < (us.length : Int) := by omega
      have hb' : (t.b : Int) < (us.length : Int) := by omega
      have hd1 : decide (us.length ≤ t.a) = false := decide_eq_false (by omega)
      have hd2 : decide (us.length ≤ t.b) = false := decide_eq_false (by omega)
      have Hw := hid' (And.intro hw s0)
      clear hw s0
      obtain ⟨x, hx⟩ : ∃ x, x = us.getD t.b 0 := ⟨_, rfl⟩
      rw [← hx] at b1 Hw
      clear hx
      go_wp2
      go_quiet (fail)
      have q0 : IntKind.i64.wrap ((p.1 : Nat) : Int) = ((p.1 : Nat) : Int) := wrap_small (by omega) (by omega)
      have q1 := guard39
      have q2 := neq39
      go_wp2
      go_region_held3 (fun w' => w'.cell? ⟨M, 1, none⟩ = some (.slice (some ⟨vb, 0, none⟩) us.length mcap) ∧ w'.cell? ⟨t.g, 0, none⟩ = some (.int .u32 t.a) ∧ w'.cell? ⟨vb, t.a * 3, none⟩ = some (.int .u8 0) ∧ w'.cell? ⟨vb, t.a * 3 + 1, none⟩ = some (.int .i64 (p.1 : Int)) ∧ w'.cell? ⟨vb, t.a * 3 + 2, none⟩ = some (.string nil8) ∧ w'.cell? ⟨kb, j, none⟩ = some (.int .u8 (p.1 : Int)))
        (first | exact ⟨m1, t0, a0, a1, a2, k0⟩ | exact ⟨cell_later Hb6.out m1, cell_later Hb6.out t0, cell_later Hb6.out a0, cell_later Hb6.out a1, cell_later Hb6.out a2, cell_later Hb6.out k0⟩)
        (first | (go_at_call 6; refine (intValue_any _ _).mono ?_; rintro e W6 ⟨rfl, hW6⟩; have hb6 : Below wr.heap.size wr W6 := (by rw [hW6]; exact (below_drewN (Below.refl _ _) nq).drew.alloc (Nat.le_refl _) _); have Hb6 := hid' hb6; clear hb6 hW6))
      rename_i hHeld
      clear hHeld
      have o0' := cell_later Hb6.out o0
      have t1' := cell_later Hb6.out t1
      have m1' := cell_later Hb6.out m1
      have b0' := cell_later Hb6.out b0
      have b1' := cell_later Hb6.out b1
      have b2' := cell_later Hb6.out b2
      have Hs : Hid (∀ i, i < p.2.length → W6.cell? ⟨sb, i, none⟩ = some (.int .i64 (p.2.getD i 0))) := hid' (fun i hi => cell_later Hb6.out (Hw.out.2 i hi))
      have Hsel := hid' Hr.out.sel
      clear g0 g1 t0 t1 m1 a0 a1 a2 b0 b1 b2 k0 o0 q0 q1 q2
      go_upto_block 7 with fail
      go_cut [35, 37, 39] from 190 to 288 (fun s35 s37 s39 wd => s35 = .int .i64 x ∧ Hid (Below W6.heap.size W6 wd))
      case first =>
        rcases Hsel.out with ⟨rfl, rfl, rfl⟩ | ⟨rfl, rfl, rfl⟩ | ⟨rfl, rfl, rfl⟩ | ⟨rfl, rfl, rfl⟩
        · clear t1' m1' b0' b1' b2' Hsel
          go_wp2_with fail
          go_meet
          exact ⟨by rw [Hw.out.1.1 rfl rfl], hid' (Below.refl _ _)⟩
        · clear t1' m1' b0' b1' b2' Hsel
          go_wp2_with (go_at_call 11; refine (distinct_any Hs.out hp0 (by omega)).mono ?_; rintro e W9 ⟨rfl, hb9⟩)
          go_meet
          exact ⟨by rw [Hw.out.1.2.1 rfl rfl], hid' hb9⟩
        · clear t1' m1' b0' b1' b2' Hsel
          have s0 := Hs.out 0 hp0
          obtain ⟨y0, hy0⟩ : ∃ y0, y0 = p.2.getD 0 0 := ⟨_, rfl⟩
          rw [← hy0] at s0
          have HY0 := hid' hy0
          clear hy0
          have hp0' : (0 : Int) < (p.2.length : Int) := by omega
          go_wp2_with fail
          go_loopw [35, 270] (fun s35 i wl => ∃ (q : Nat) (m : Int), i = .int .i64 q ∧ s35 = .int .i64 m ∧ q ≤ p.2.length ∧ Hid (MinTo p.2 q m) ∧ wl = W6) (fun s35 i _ => p.2.length - (intOf i).toNat)
          case atStart => exact ⟨0, _, rfl, rfl, Nat.zero_le _, hid' ⟨by rw [HY0.out]; exact getD_in hp0, fun k hk => absurd hk (Nat.not_lt_zero _)⟩, rfl⟩
          case round =>
            obtain ⟨q, m, rfl, rfl, hql, Hm, rfl⟩ := hrel
            by_cases hqlt : q < p.2.length
            · have hqlt' : (q : Int) < (p.2.length : Int) := by omega
              have sq := Hs.out q hqlt
              obtain ⟨y, hy⟩ : ∃ y, y = p.2.getD q 0 := ⟨_, rfl⟩
              rw [← hy] at sq
              have Hy := hid' hy
              clear hy
              by_cases hym : y < m
              · have hd : decide (y < m) = true := decide_eq_true hym
                go_wp2
                refine ⟨⟨q + 1, y, rfl, rfl, hqlt, hid' (by rw [Hy.out]; exact Hm.out.less hqlt (Hy.out ▸ hym)), trivial⟩, ?_⟩
                simp [intOf]
                omega
              · have hd : decide (y < m) = false := decide_eq_false hym
                have Hym := hid' hym
                go_wp2
                refine ⟨⟨q + 1, m, rfl, rfl, hqlt, hid' (Hm.out.keep (Hy.out ▸ Hym.out)), trivial⟩, ?_⟩
                simp [intOf]
                omega
            · have hqlt' : ¬ (q : Int) < (p.2.length : Int) := by omega
              have hqe : q = p.2.length := by omega
              have Hx := hid' ((hqe ▸ Hm.out : MinTo p.2 p.2.length m).want Hw.out.1)
              clear hqe
              go_wp2
              go_meet
              exact ⟨by rw [Hx.out], hid' (Below.refl _ _)⟩
        · clear t1' m1' b0' b1' b2' Hsel
          have s0 := Hs.out 0 hp0
          obtain ⟨y0, hy0⟩ : ∃ y0, y0 = p.2.getD 0 0 := ⟨_, rfl⟩
          rw [← hy0] at s0
          have HY0 := hid' hy0
          clear hy0
          have hp0' : (0 : Int) < (p.2.length : Int) := by omega
          go_wp2_with fail
          go_loopw [35, 246] (fun s35 i wl => ∃ (q : Nat) (m : Int), i = .int .i64 q ∧ s35 = .int .i64 m ∧ q ≤ p.2.length ∧ Hid (MaxTo p.2 q m) ∧ wl = W6) (fun s35 i _ => p.2.length - (intOf i).toNat)
          case atStart => exact ⟨0, _, rfl, rfl, Nat.zero_le _, hid' ⟨by rw [HY0.out]; exact getD_in hp0, fun k hk => absurd hk (Nat.not_lt_zero _)⟩, rfl⟩
          case round =>
            obtain ⟨q, m, rfl, rfl, hql, Hm, rfl⟩ := hrel
            by_cases hqlt : q < p.2.length
            · have hqlt' : (q : Int) < (p.2.length : Int) := by omega
              have sq := Hs.out q hqlt
              obtain ⟨y, hy⟩ : ∃ y, y = p.2.getD q 0 := ⟨_, rfl⟩
              rw [← hy] at sq
              have Hy := hid' hy
              clear hy
              by_cases hym : m < y
              · have hd : decide (m < y) = true := decide_eq_true hym
                go_wp2
                refine ⟨⟨q + 1, y, rfl, rfl, hqlt, hid' (by rw [Hy.out]; exact Hm.out.more hqlt (Hy.out ▸ hym)), trivial⟩, ?_⟩
                simp [intOf]
                omega
              · have hd : decide (m < y) = false := decide_eq_false hym
                have Hym := hid' hym
                go_wp2
                refine ⟨⟨q + 1, m, rfl, rfl, hqlt, hid' (Hm.out.keep (Hy.out ▸ Hym.out)), trivial⟩, ?_⟩
                simp [intOf]
                omega
            · have hqlt' : ¬ (q : Int) < (p.2.length : Int) := by omega
              have hqe : q = p.2.length := by omega
              have Hx := hid' ((hqe ▸ Hm.out : MaxTo p.2 p.2.length m).want Hw.out.1)
              clear hqe
              go_wp2
              go_meet
              exact ⟨by rw [Hx.out], hid' (Below.refl _ _)⟩
      case rest =>
        obtain ⟨rfl, Hb7⟩ := hcut
        have t1 := cell_later Hb7.out t1'
        have m1 := cell_later Hb7.out m1'
        have b0 := cell_later Hb7.out b0'
        have b1 := cell_later Hb7.out b1'
        have b2 := cell_later Hb7.out b2'
        clear t1' m1' b0' b1' b2' o0'
        have q1 := guard39
        have q2 := neq39
        go_wp2
        go_region_held3 (fun w' => w'.cell? ⟨M, 1, none⟩ = some (.slice (some ⟨vb, 0, none⟩) us.length mcap) ∧ w'.cell? ⟨t.g, 1, none⟩ = some (.int .u32 t.b) ∧ w'.cell? ⟨vb, t.b * 3, none⟩ = some (.int .u8 0) ∧ w'.cell? ⟨vb, t.b * 3 + 1, none⟩ = some (.int .i64 x) ∧ w'.cell? ⟨vb, t.b * 3 + 2, none⟩ = some (.string nil8))
          (first | exact ⟨m1, t1, b0, b1, b2⟩ | exact ⟨cell_later Hb8.out m1, cell_later Hb8.out t1, cell_later Hb8.out b0, cell_later Hb8.out b1, cell_later Hb8.out b2⟩)
          (first | (go_at_call 6; refine (intValue_any _ _).mono ?_; rintro e W8 ⟨rfl, hW8⟩; have hb8 : Below wc.heap.size wc W8 := (by rw [hW8]; exact (Below.refl _ _).drew.alloc (Nat.le_refl _) _); have Hb8 := hid' hb8; clear hb8 hW8))
        rename_i hHeld
        clear hHeld
        go_wp2
        have hs6 := Hb6.out.size
        have hs7 := Hb7.out.size
        have hall : Below wr.heap.size wr W8 := Hb6.out.trans ((Hb7.out.mono hs6).trans (Hb8.out.mono (by omega)))
        refine ⟨⟨j + 1, rfl, hlt, hid' (Hr.out.below hall), hid' (Hbr.out.trans (hall.mono Hbr.out.size))⟩, ?_⟩
        simp [intOf]
        omega
    · have hlt' : ¬ (j : Int) < (Ts.length : Int) := by omega
      go_wp2
      rw [HQ.out]
      unfold lawPost
      go_ret
      exact ⟨rfl, Hbr.out⟩
end Go.Proofs.YbulkeifqGreat
