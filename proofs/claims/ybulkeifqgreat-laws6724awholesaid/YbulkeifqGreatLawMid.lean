/-
  THE LAW's OWN MODEL: a round of its loop, plain. No walk.
-/
import Derived.Test.YbulkeifqGreatLawLast
namespace Go.Proofs.YbulkeifqGreat
open Go.RowKit Go.Maps
set_option linter.unusedVariables false

/-- The round's key stands at place j, with the values zs so far; v is still to come; then the groups are G. -/
structure MMid (w : World) (B IX : Nat) (kv vv : Value) (k : Nat) (v : Int) (G : List (Nat × List Int)) (c : Nat → Nat) (S : List Value) (j : Nat) (zs : List Int) : Prop where
  mst : ∃ zss, MSt w B IX kv vv (G.map Prod.fst) zss c S ∧ zss[j]? = some zs ∧ G.map Prod.snd = zss.set j (zs ++ [v])
  at' : c k = j + 1
  len : j < S.length

theorem MSt.hit {w : World} {B IX k : Nat} {v : Int} {kv vv : Value} {G : List (Nat × List Int)} {c : Nat → Nat} {S : List Value} (h : MSt w B IX kv vv (G.map Prod.fst) (G.map Prod.snd) c S) (hk : k < 256) (hc : c k ≠ 0) :
    ∃ zs, MMid w B IX kv vv k v (ins k v G) c S (c k - 1) zs := by
  rcases h.ok.2.2 k hk with ⟨h0, _⟩ | ⟨_, h1⟩
  · exact absurd h0 hc
  · obtain ⟨a, b⟩ := ins_old (v := v) h.ok.1 h1
    have hl : c k - 1 < G.length := by have := (List.getElem?_eq_some_iff.1 h1).1; simpa using this
    have e : (G.map Prod.snd)[c k - 1]? = some ((G.map Prod.snd).getD (c k - 1) []) := by
      rw [List.getD_eq_getElem?_getD, List.getElem?_eq_getElem (by simpa using hl)]
      rfl
    exact ⟨_, ⟨⟨_, by rw [a]; exact h, e, b⟩, by omega, by have := h.len.1; simp at this; omega⟩⟩

theorem MSt.mid {w w1 w2 : World} {B IX k : Nat} {v : Int} {kv vv kv' vv' : Value} {G : List (Nat × List Int)} {c : Nat → Nat} {S : List Value} {o o' : Obj} (h : MSt w B IX kv vv (G.map Prod.fst) (G.map Prod.snd) c S) (hk : k < 256) (h0 : c k = 0) (hB : B ≤ w.heap.size)
    (own1 : w1.ownsRow B 5 1 kv' (G.length + 1) ((((G.map Prod.fst).map fun k : Nat => Value.int .u8 (k : Int))) ++ [.int .u8 (k : Int)])) (g1 : (w.alloc o).grownBy w1 kv.ownBlock)
    (own2 : w2.ownsRow B 82 1 vv' (G.length + 1) (S ++ [.slice none 0 0])) (g2 : (w1.alloc o').grownBy w2 vv.ownBlock) :
    (∃ c', MMid (w2.setCell ⟨IX, k, none⟩ (.int .i64 ((G.length + 1 : Nat) : Int))) B IX kv' vv' k v (ins k v G) c' (S ++ [.slice none 0 0]) G.length []) ∧
    Below B w (w2.setCell ⟨IX, k, none⟩ (.int .i64 ((G.length + 1 : Nat) : Int))) := by
  have hS : S.length = G.length := by have := h.len.1; simpa using this
  obtain ⟨a, b, _, _⟩ := h.miss (k := k) hk h0 hB (by simpa using own1) g1 (by rw [hS]; exact own2) g2
  obtain ⟨hn, _⟩ := h.ok.miss hk h0
  have e := ins_new (v := v) hn
  simp only [List.length_map] at a b
  refine ⟨⟨_, ⟨_, by rw [e, List.map_append]; exact a, ?_, ?_⟩, by simp, by simp [hS]⟩, b⟩
  · rw [List.getElem?_append_right (by simp)]
    simp
  · rw [e, List.map_append, List.set_append_right _ _ (by simp)]
    simp

theorem MMid.push {w w1 : World} {B IX k j g cap' vb vcap : Nat} {v : Int} {kv s : Value} {G : List (Nat × List Int)} {zs : List Int} {c : Nat → Nat} {S : List Value} {o : Obj} (h : MMid w B IX kv (.slice (some ⟨vb, 0, none⟩) S.length vcap) k v G c S j zs) (hB : B ≤ w.heap.size) (hs : S[j]? = some s)
    (own1 : w1.ownsRow B 2 1 (.slice (some ⟨g, 0, none⟩) (zs.length + 1) cap') (zs.length + 1) (zs.map (Value.int .i64) ++ [.int .i64 v])) (g1 : (w.alloc o).grownBy w1 s.ownBlock) (hg : s.ownBlock = some g ∨ w.heap.size ≤ g) :
    (∃ c S', MSt (w1.setCell ⟨vb, j, none⟩ (.slice (some ⟨g, 0, none⟩) (zs.length + 1) cap')) B IX kv (.slice (some ⟨vb, 0, none⟩) S.length vcap) (G.map Prod.fst) (G.map Prod.snd) c S') ∧
    Below B w (w1.setCell ⟨vb, j, none⟩ (.slice (some ⟨g, 0, none⟩) (zs.length + 1) cap')) := by
  obtain ⟨zss, h1, h2, h3⟩ := h.mst
  obtain ⟨a, b⟩ := h1.push hB hs h2 own1 g1 hg
  exact ⟨⟨_, _, by rw [h3]; exact a⟩, b⟩

/-- What the round reads. -/
theorem MMid.cells {w : World} {B IX k j : Nat} {v : Int} {kv vv : Value} {G : List (Nat × List Int)} {zs : List Int} {c : Nat → Nat} {S : List Value} (h : MMid w B IX kv vv k v G c S j zs) (hk : k < 256) :
    ∃ (s : Value) (vb vcap : Nat), vv = .slice (some ⟨vb, 0, none⟩) S.length vcap ∧ S[j]? = some s ∧ w.cell? ⟨IX, k, none⟩ = some (.int .i64 ((j + 1 : Nat) : Int)) ∧ w.cell? ⟨vb, j, none⟩ = some s ∧ w.ownsRow B 2 1 s zs.length (zs.map (Value.int .i64)) ∧ IX < w.heap.size ∧ vb < w.heap.size ∧ j < S.length ∧ S.length = G.length ∧ ∃ cs, w.heap[vb]? = some (.cells cs 82 (0, 0)) := by
  obtain ⟨zss, h1, h2, h3⟩ := h.mst
  obtain ⟨vb, vcap, rfl, _, _, o3⟩ := own_some h1.vals (by have := h.len; omega)
  obtain ⟨s, hs⟩ : ∃ s, S[j]? = some s := ⟨S[j]'h.len, List.getElem?_eq_getElem _⟩
  obtain ⟨cs, i1, i2, i3⟩ := h1.idx
  obtain ⟨_, cv, hcv⟩ := own_row h1.vals vb rfl
  refine ⟨s, vb, vcap, rfl, hs, ?_, by rw [o3 j h.len, hs], h1.rows j s zs hs h2, lt_blk i1, lt_blk hcv, h.len, ?_, cv, hcv⟩
  · rw [cell_blk i1, i3 k hk, h.at']
  · have a := h1.len.1
    have b := h1.len.2
    simp at b
    omega

theorem MMid.below {w w' : World} {B IX k j : Nat} {v : Int} {kv vv : Value} {G : List (Nat × List Int)} {zs : List Int} {c : Nat → Nat} {S : List Value} (h : MMid w B IX kv vv k v G c S j zs) (b : Below w.heap.size w w') : MMid w' B IX kv vv k v G c S j zs := by
  obtain ⟨zss, h1, h2, h3⟩ := h.mst
  exact ⟨⟨zss, h1.below b, h2, h3⟩, h.at', h.len⟩

theorem MSt.vals1 {w w1 : World} {B IX : Nat} {kv vv : Value} {ks : List Nat} {zss : List (List Int)} {c : Nat → Nat} {S : List Value} {o : Obj} (h : MSt w B IX kv vv ks zss c S) (g1 : (w.alloc o).grownBy w1 kv.ownBlock) : w1.ownsRow B 82 1 vv S.length S :=
  (ch_app h.keys g1).ownsRow h.vals (fun k cs _ => not_tg (by decide))

theorem MSt.mid3 {w w1 w2 : World} {B IX bx : Nat} {kv vv : Value} {ks : List Nat} {zss : List (List Int)} {c : Nat → Nat} {S : List Value} {o o' : Obj} {xs : Array Value} (h : MSt w B IX kv vv ks zss c S) (g1 : (w.alloc o).grownBy w1 kv.ownBlock) (g2 : (w1.alloc o').grownBy w2 vv.ownBlock) (hx : w.heap[bx]? = some (.cells xs 34 (0, 0))) :
    w2.heap[bx]? = some (.cells xs 34 (0, 0)) ∧ ∃ ci, w2.heap[IX]? = some (.cells ci 80 (0, 0)) ∧ ∀ k, k < 256 → ci[k]? = some (.int .i64 (c k : Nat)) := by
  have c1 : Ch B (Tg' 5) w w1 := ch_app h.keys g1
  have c2 : Ch B (Tg' 82) w1 w2 := ch_app (h.vals1 g1) g2
  obtain ⟨ci, i1, _, i3⟩ := h.idx
  exact ⟨c2.keep (c1.keep hx (not_tg (by decide))) (not_tg (by decide)), ci, c2.keep (c1.keep i1 (not_tg (by decide))) (not_tg (by decide)), i3⟩

theorem MMid.zlen {w : World} {B IX k j N : Nat} {v : Int} {kv vv : Value} {G : List (Nat × List Int)} {zs : List Int} {c : Nat → Nat} {S : List Value} (h : MMid w B IX kv vv k v G c S j zs) (hG : ∀ p ∈ G, p.2.length ≤ N + 1) : zs.length ≤ N := by
  obtain ⟨zss, h1, h2, h3⟩ := h.mst
  have hj : j < zss.length := (List.getElem?_eq_some_iff.1 h2).1
  have hm : (zs ++ [v]) ∈ G.map Prod.snd := by
    rw [h3]
    exact List.mem_of_getElem? (List.getElem?_set_self hj)
  obtain ⟨p, hp, e⟩ := List.mem_map.1 hm
  have := hG p hp
  rw [e] at this
  simp at this
  omega

/-- What the last loop stands on, when the model's loop is done. -/
theorem law_state {w wr : World} {B M I GV CV SV E0 IX : Nat} {us : List Int} {cur : Value} {n stop sel : Nat} {cc op rg : Int} {Ts : List TR} {K : Nat → Nat} {V : Nat → Int} {kv vv : Value} {c : Nat → Nat} {S : List Value} (hn : n ≤ 1048576)
    (h : Mach w B M I us cur (n : Int) ∧ ESt w GV CV SV E0 stop cc Ts ∧ (∀ (j : Nat) (t : TR), Ts[j]? = some t → ∃ p : Nat × List Int, (gv K V n)[j]? = some p ∧ t.a < us.length ∧ t.b < us.length ∧ us.getD t.a 0 = (p.1 : Int) ∧ WantOK op rg p.2 (us.getD t.b 0)) ∧ SelOK sel op rg ∧ Ts.length = min (stop + 1) (gv K V n).length ∧ stop ≤ 255)
    (hm : MSt wr w.heap.size IX kv vv ((gv K V n).map Prod.fst) ((gv K V n).map Prod.snd) c S) (hb : Below w.heap.size w wr) :
    LSt4 wr B M I GV CV SV E0 w.heap.size IX us cur n stop sel cc op rg Ts (gv K V n) kv vv c S := by
  obtain ⟨h1, h2, h3, h4, h5, h6⟩ := h
  have hl := gv_len (K := K) (V := V) n
  exact ⟨h1.below hb, h2.ch (S := fun _ _ => False) (Ch.of_below hb) (by simp) (by simp) (by simp) (by simp), hm, h3, ⟨by omega, by omega⟩, fun p hp => ⟨(gv_vals (fun _ => True) (fun _ _ => trivial) p hp).1, by have := hl.1 p hp; omega⟩, by omega, h4⟩

/-- The table as it is made. -/
theorem MSt.new {w X : World} {B : Nat} (hB : B = w.heap.size) (hX : X = w.alloc (.cells (Array.replicate 256 (.int .i64 0)) 80)) : MSt X B w.heap.size (.slice none 0 0) (.slice none 0 0) [] [] (fun _ => 0) [] := by
  subst hX hB
  refine ⟨⟨rfl, .inl ⟨rfl, rfl⟩⟩, ⟨rfl, .inl ⟨rfl, rfl⟩⟩, ⟨rfl, rfl⟩, by simp, by simp, ⟨_, alloc_new _ _, by simp, fun k hk => ?_⟩, ⟨List.nodup_nil, by simp, fun k hk => .inl ⟨rfl, by simp⟩⟩, Nat.le_refl _⟩
  rw [Array.getElem?_replicate, if_pos hk]
  rfl
end Go.Proofs.YbulkeifqGreat
