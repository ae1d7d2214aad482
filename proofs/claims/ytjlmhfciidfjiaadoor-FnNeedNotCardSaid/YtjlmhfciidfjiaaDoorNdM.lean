/- Requirements: made and NeedMatch, for any operator. -/
import Derived.Test.YtjlmhfciidfjiaaDoorNdS
import Derived.Deep.RegionHeld3
set_option linter.unusedSimpArgs false
set_option linter.unusedVariables false
namespace Go.Proofs.YtjlmhfciidfjiaaDoor.NdM
open Go.RowKit Go.Maps Go.Proofs.YtjlmhfciidfjiaaDoorW.PrintWords Go.Proofs.YtjlmhfciidfjiaaDoorW.PrintLast Go.Proofs.YtjlmhfciidfjiaaDoor.EvL Go.Proofs.YtjlmhfciidfjiaaDoor.SetGen Go.Proofs.YtjlmhfciidfjiaaDoor.MapGen Go.Proofs.YtjlmhfciidfjiaaDoor.XFnNeedNot Go.Proofs.YtjlmhfciidfjiaaDoor.LabS Go.Proofs.YtjlmhfciidfjiaaDoor.NdR Go.Proofs.YtjlmhfciidfjiaaDoor.NdP Go.Proofs.YtjlmhfciidfjiaaDoor.NdQ Go.Proofs.YtjlmhfciidfjiaaDoor.NdS
/-- What NewRequirement tells of an operator. -/
def New (op key : ByteArray) (l : List ByteArray) : Prop := ∀ (A : Option Addr) (c : Nat) (w : World), Kd.string.C w A l.length l →
    Calls Tryd.prog 23 #[.string key, .string op, .slice A l.length c, .slice none 0 0] w fun e w' => ∃ g, e = .returned (.tuple #[.pointer (some ⟨g, 0, none⟩), .nilIface]) ∧ w.heap.size ≤ g ∧ Rq w' g key op A l.length c ∧ Below w.heap.size w w'
theorem bt {w W v : World} (h : Below w.heap.size w W) (hb : Below W.heap.size W v) : Below w.heap.size w v := below_then h h.size hb
theorem texts_some (l : List ByteArray) (hl : l.length ≤ 4294967296) : impl_texts.f l = some l := by
  show ((some (([] : List ByteArray) : List ByteArray)).bind fun y => (if y.length + l.length < 8796093022208 then (some (y ++ l)) else (none))) = some l
  simp only [Option.bind_some, List.length_nil, List.nil_append]
  rw [if_pos (by omega)]
set_option maxHeartbeats 2000000 in
set_option maxRecDepth 100000 in
theorem made_c (op key : ByteArray) (l : List ByteArray) (hl : l.length ≤ 4294967296) (hn : New op key l) (A : Option Addr) (c : Nat) (hc : l.length ≤ c) (w : World) (hr : Kd.string.C w A l.length l) :
    Calls Tryd.prog 13 #[.agg #[.string key, .string op, .slice A l.length c]] w fun e w' => ∃ g A2 c2, e = .returned (.tuple #[.pointer (some ⟨g, 0, none⟩), .nilIface]) ∧ Rq w' g key op A2 l.length c2 ∧ Kd.string.C w' A2 l.length l ∧ Below w.heap.size w w' := by
  have ht := Aside0.mk (fun W (hb : Below w.heap.size w W) => impl_texts.calls A c l l W (Kd.C_below hr hb) hc (texts_some l hl))
  have hnx := Aside0.mk hn
  have hX := Aside0.mk (Below.refl w.heap.size w)
  clear hr hn
  go_enter Tryd.func13, Tryd.ntmps13
  go_wp2_with fail
  go_region_held3 (fun W => W.cell? ⟨w.heap.size, 0, none⟩ = some (.string key) ∧ W.cell? ⟨w.heap.size, 1, none⟩ = some (.string op) ∧ W.cell? ⟨w.heap.size, 2, none⟩ = some (.slice A l.length c)) (go_keep) (first
    | (go_at_call 24; go_loud (refine (ht.out _ (below_drew (below_alloc hX.out _))).mono ?_; rintro e w6 ⟨v0, rfl, hR2, hb⟩; obtain ⟨A2, c2, rfl, hc2, hC2⟩ := Kd.R_reads hR2; replace hC2 := Aside0.mk hC2; have k0 := hb.cell (p := ⟨w.heap.size, 0, none⟩) (by simp); have k1 := hb.cell (p := ⟨w.heap.size, 1, none⟩) (by simp); have k2 := hb.cell (p := ⟨w.heap.size, 2, none⟩) (by simp); replace hb := Aside0.mk (bt (below_drew (below_alloc hX.out _)) hb); clear hR2))
    | (go_at_call 23; refine (hnx.out _ _ _ hC2.out).mono ?_; rintro e w7 ⟨g, rfl, hg, hRq, hb2⟩; replace hC2 := Aside0.mk (Kd.C_below hC2.out hb2); replace hRq := Aside0.mk hRq; have k3 := hb2.cell (p := ⟨w.heap.size, 0, none⟩) (World.block_lt_of_cell? w6 (u := .string key) _ (And.left (b := w6.cell? ⟨w.heap.size, 1, none⟩ = some (.string op) ∧ w6.cell? ⟨w.heap.size, 2, none⟩ = some (.slice A l.length c)) (by assumption))); have k4 := hb2.cell (p := ⟨w.heap.size, 1, none⟩) (World.block_lt_of_cell? w6 (u := .string key) ⟨w.heap.size, 0, none⟩ (And.left (b := w6.cell? ⟨w.heap.size, 1, none⟩ = some (.string op) ∧ w6.cell? ⟨w.heap.size, 2, none⟩ = some (.slice A l.length c)) (by assumption))); have k5 := hb2.cell (p := ⟨w.heap.size, 2, none⟩) (World.block_lt_of_cell? w6 (u := .string key) ⟨w.heap.size, 0, none⟩ (And.left (b := w6.cell? ⟨w.heap.size, 1, none⟩ = some (.string op) ∧ w6.cell? ⟨w.heap.size, 2, none⟩ = some (.slice A l.length c)) (by assumption))); replace hb2 := Aside0.mk (bt hb.out hb2)))
  all_goals (go_wp2_with fail)
  all_goals
    go_ret2
    exact ⟨_, _, _, rfl, hRq.out, hC2.out, hb2.out⟩
/-- What Matches tells of an operator, over a set's map. -/
def Mt (op key : ByteArray) (l : List ByteArray) (f : ByteArray → Option ByteArray) (r : Bool) : Prop := ∀ (g : Nat) (A : Option Addr) (c b N : Nat) (w : World), Vars.Vars w → M w b N f → Rq w g key op A l.length c → Kd.string.C w A l.length l →
    Calls Tryd.prog 14 #[.pointer (some ⟨g, 0, none⟩), .iface 45 (.map (some b))] w fun e w' => e = .returned (.bool r) ∧ Below w.heap.size w w'
set_option maxHeartbeats 2000000 in
set_option maxRecDepth 100000 in
theorem nm_c (op key : ByteArray) (l : List ByteArray) (hl : l.length ≤ 4294967296) (hn : New op key l) (A : Option Addr) (c : Nat) (hc : l.length ≤ c) (As : Option Addr) (ls : List S35) (cs : Nat) (hls : ls.length ≤ 4294967296) (hok : ∀ p ∈ ls, p.f0.size ≤ maxLen ∧ p.f1.size ≤ maxLen) (r : Bool) (hm : Mt op key l (fn ls) r) (w : World) (hV : Vars.Vars w) (hr : Kd.string.C w A l.length l) (hrs : k35.C w As ls.length ls) :
    Calls Tryd.prog 7 #[.agg #[.string key, .string op, .slice A l.length c], .slice As ls.length cs] w fun e w' => e = .returned (.tuple #[.bool r, .bool false]) ∧ Below w.heap.size w w' := by
  have ht := Aside0.mk (fun W (hb : Below w.heap.size w W) => made_c op key l hl hn A c hc W (Kd.C_below hr hb))
  have hs := Aside0.mk (fun W (hb : Below w.heap.size w W) => labelSet_calls As ls cs W (Kd.C_below hrs hb) hls hok)
  have hmx := Aside0.mk hm
  replace hV := Aside0.mk hV
  have hX := Aside0.mk (Below.refl w.heap.size w)
  clear hr hn hrs hok hm
  go_enter Tryd.func7, Tryd.ntmps7
  go_wp2_with fail
  refine (ht.out _ (below_alloc hX.out _)).mono ?_
  rintro e w6 ⟨g, A2, c2, rfl, hRq, hC2, hb⟩
  replace hRq := Aside0.mk hRq
  replace hC2 := Aside0.mk hC2
  replace hb := Aside0.mk (bt (below_alloc hX.out _) hb)
  go_wp2_with fail
  refine (hs.out _ hb.out).mono ?_
  rintro e w7 ⟨rfl, hM, hb2⟩
  replace hRq := Aside0.mk (Rq.below hRq.out hb2)
  replace hC2 := Aside0.mk (Kd.C_below hC2.out hb2)
  replace hb := Aside0.mk (bt hb.out hb2)
  replace hM := Aside0.mk hM
  clear hb2
  go_wp2_with fail
  refine (hmx.out _ _ _ _ _ _ (hV.out.below hb.out) hM.out hRq.out hC2.out).mono ?_
  rintro e w8 ⟨rfl, hb3⟩
  replace hb := Aside0.mk (bt hb.out hb3)
  clear hb3
  go_wp2_with fail
  go_ret2
  exact ⟨rfl, hb.out⟩
end Go.Proofs.YtjlmhfciidfjiaaDoor.NdM
