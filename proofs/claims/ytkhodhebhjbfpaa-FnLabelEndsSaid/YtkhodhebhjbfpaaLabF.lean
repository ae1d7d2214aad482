/- FnLabelEnds: LabelEnds and the law's function walked. -/
import Derived.Test.YtkhodhebhjbfpaaLabE
import Derived.Test.YtkhodhebhjbfpaaOpen
set_option linter.unusedSimpArgs false
set_option linter.unusedVariables false
namespace Go.Proofs.Ytkhodhebhjbfpaa.LabF
open Go.RowKit Go.Maps Go.Proofs.YtkhodhebhjbfpaaW.PrintWords Go.Proofs.YtkhodhebhjbfpaaW.PrintLast Go.Proofs.Ytkhodhebhjbfpaa.EvL Go.Proofs.Ytkhodhebhjbfpaa.SetGen Go.Proofs.Ytkhodhebhjbfpaa.MapGen Go.Proofs.Ytkhodhebhjbfpaa.XFnLabelEnds Go.Proofs.Ytkhodhebhjbfpaa.LabS Go.Proofs.Ytkhodhebhjbfpaa.LabE
set_option maxHeartbeats 4000000 in
set_option maxRecDepth 100000 in
theorem ends_2 (A : Option Addr) (l : List S28) (c : Nat) (w : World) (hr : k28.C w A l.length l) (hl : l.length ≤ 4294967296) (hok : ∀ p ∈ l, p.f0.size ≤ maxLen ∧ p.f1.size ≤ maxLen) :
    Calls Try.prog 5 #[.int .i64 2, .slice A l.length c] w fun e w' => e = .returned (.tuple #[.bool true, .bool true, .bool false]) ∧ Below w.heap.size w w' := by
  have hs : ∀ W, Below w.heap.size w W → Calls Try.prog 10 #[.slice A l.length c] W (fun e w' => (∃ b, e = .returned (.map (some b))) ∧ Below w.heap.size w w') := fun W hW =>
    (labelSet_calls A l c W (Kd.C_below hr hW) hl hok).mono (fun e w' ⟨he, _, hb⟩ => ⟨⟨_, he⟩, below_then hW hW.size hb⟩)
  replace hs := Aside0.mk hs
  have HB := Aside0.mk (Below.refl w.heap.size w)
  clear hr hl hok
  have a1 := na_Matches_N
  have a2 := me_Matches_N
  have a3 := na_Empty_N
  have a4 := me_Empty_N
  go_enter Try.func5, Try.ntmps5
  go_wp2_with (first
    | (go_at_call 7; refine (new_calls _).mono ?_; rintro e w' ⟨rfl, rfl⟩))
  go_region_with (first
    | (go_at_call 10; refine (hs.out _ (by first | exact HB.out | exact below_drew HB.out | exact pw_below_drewN HB.out _)).mono ?_; rintro e w1 ⟨⟨b, rfl⟩, HB⟩; replace HB := Aside0.mk HB)
    | (go_at_call 31; refine (matches_N _ _ _).mono ?_; rintro e w2 ⟨rfl, hb⟩; replace HB := Aside0.mk (by first | exact below_then HB.out HB.out.size hb | exact below_then (below_drew HB.out) (below_drew HB.out).size hb | exact below_then (pw_below_drewN HB.out _) (pw_below_drewN HB.out _).size hb); clear hb)
    | (go_at_call 30; refine (empty_N _).mono ?_; rintro e w2 ⟨rfl, hb⟩; replace HB := Aside0.mk (by first | exact below_then HB.out HB.out.size hb | exact below_then (below_drew HB.out) (below_drew HB.out).size hb | exact below_then (pw_below_drewN HB.out _) (pw_below_drewN HB.out _).size hb); clear hb)
    | (go_at_call 11; refine (mn_N _).mono ?_; rintro e w2 ⟨rfl, hb⟩; replace HB := Aside0.mk (by first | exact below_then HB.out HB.out.size hb | exact below_then (below_drew HB.out) (below_drew HB.out).size hb | exact below_then (pw_below_drewN HB.out _) (pw_below_drewN HB.out _).size hb); clear hb))
  all_goals (go_wp2_with fail; go_ret3; refine ⟨rfl, ?_⟩; (first | exact HB.out | exact below_drew HB.out | exact pw_below_drewN HB.out _))
set_option maxHeartbeats 4000000 in
set_option maxRecDepth 100000 in
theorem ends_0 (A : Option Addr) (l : List S28) (c : Nat) (w : World) (hr : k28.C w A l.length l) (hl : l.length ≤ 4294967296) (hok : ∀ p ∈ l, p.f0.size ≤ maxLen ∧ p.f1.size ≤ maxLen) :
    Calls Try.prog 5 #[.int .i64 0, .slice A l.length c] w fun e w' => e = .returned (.tuple #[.bool true, .bool true, .bool false]) ∧ Below w.heap.size w w' := by
  have hs : ∀ W, Below w.heap.size w W → Calls Try.prog 10 #[.slice A l.length c] W (fun e w' => (∃ b, e = .returned (.map (some b))) ∧ Below w.heap.size w w') := fun W hW =>
    (labelSet_calls A l c W (Kd.C_below hr hW) hl hok).mono (fun e w' ⟨he, _, hb⟩ => ⟨⟨_, he⟩, below_then hW hW.size hb⟩)
  replace hs := Aside0.mk hs
  have HB := Aside0.mk (Below.refl w.heap.size w)
  clear hr hl hok
  have a1 := na_Matches_N
  have a2 := me_Matches_N
  have a3 := na_Empty_N
  have a4 := me_Empty_N
  go_enter Try.func5, Try.ntmps5
  go_wp2_with (first
    | (go_at_call 7; refine (new_calls _).mono ?_; rintro e w' ⟨rfl, rfl⟩)
    | (go_at_call 8; refine (every_calls _).mono ?_; rintro e w9 ⟨rfl, hb⟩; have HB := Aside0.mk (below_then HB.out HB.out.size hb); clear hb))
  go_region_with (first
    | (go_at_call 10; refine (hs.out _ (by first | exact HB.out | exact below_drew HB.out | exact pw_below_drewN HB.out _)).mono ?_; rintro e w1 ⟨⟨b, rfl⟩, HB⟩; replace HB := Aside0.mk HB)
    | (go_at_call 31; refine (matches_N _ _ _).mono ?_; rintro e w2 ⟨rfl, hb⟩; replace HB := Aside0.mk (by first | exact below_then HB.out HB.out.size hb | exact below_then (below_drew HB.out) (below_drew HB.out).size hb | exact below_then (pw_below_drewN HB.out _) (pw_below_drewN HB.out _).size hb); clear hb)
    | (go_at_call 30; refine (empty_V _ _).mono ?_; rintro e w2 ⟨rfl, hb⟩; replace HB := Aside0.mk (by first | exact below_then HB.out HB.out.size hb | exact below_then (below_drew HB.out) (below_drew HB.out).size hb | exact below_then (pw_below_drewN HB.out _) (pw_below_drewN HB.out _).size hb); clear hb)
    | (go_at_call 11; refine (mn_V _ _).mono ?_; rintro e w2 ⟨rfl, hb⟩; replace HB := Aside0.mk (by first | exact below_then HB.out HB.out.size hb | exact below_then (below_drew HB.out) (below_drew HB.out).size hb | exact below_then (pw_below_drewN HB.out _) (pw_below_drewN HB.out _).size hb); clear hb))
  all_goals (go_wp2_with fail; go_ret3; refine ⟨rfl, ?_⟩; (first | exact HB.out | exact below_drew HB.out | exact pw_below_drewN HB.out _))
set_option maxHeartbeats 4000000 in
set_option maxRecDepth 100000 in
theorem ends_1 (A : Option Addr) (l : List S28) (c : Nat) (w : World) (hr : k28.C w A l.length l) (hl : l.length ≤ 4294967296) (hok : ∀ p ∈ l, p.f0.size ≤ maxLen ∧ p.f1.size ≤ maxLen) :
    Calls Try.prog 5 #[.int .i64 1, .slice A l.length c] w fun e w' => e = .returned (.tuple #[.bool false, .bool false, .bool true]) ∧ Below w.heap.size w w' := by
  have hs : ∀ W, Below w.heap.size w W → Calls Try.prog 10 #[.slice A l.length c] W (fun e w' => (∃ b, e = .returned (.map (some b))) ∧ Below w.heap.size w w') := fun W hW =>
    (labelSet_calls A l c W (Kd.C_below hr hW) hl hok).mono (fun e w' ⟨he, _, hb⟩ => ⟨⟨_, he⟩, below_then hW hW.size hb⟩)
  replace hs := Aside0.mk hs
  have HB := Aside0.mk (Below.refl w.heap.size w)
  clear hr hl hok
  have a1 := na_Matches_0
  have a2 := me_Matches_0
  have a3 := na_Empty_0
  have a4 := me_Empty_0
  go_enter Try.func5, Try.ntmps5
  go_wp2_with (first
    | (go_at_call 7; refine (new_calls _).mono ?_; rintro e w' ⟨rfl, rfl⟩)
    | (go_at_call 9; refine (nothing_calls _).mono ?_; rintro e w9 ⟨rfl, hb⟩; have HB := Aside0.mk (below_then HB.out HB.out.size hb); clear hb))
  go_region_with (first
    | (go_at_call 10; refine (hs.out _ (by first | exact HB.out | exact below_drew HB.out | exact pw_below_drewN HB.out _)).mono ?_; rintro e w1 ⟨⟨b, rfl⟩, HB⟩; replace HB := Aside0.mk HB)
    | (go_at_call 66; refine (matches_0 _ _).mono ?_; rintro e w2 ⟨rfl, hb⟩; replace HB := Aside0.mk (by first | exact below_then HB.out HB.out.size hb | exact below_then (below_drew HB.out) (below_drew HB.out).size hb | exact below_then (pw_below_drewN HB.out _) (pw_below_drewN HB.out _).size hb); clear hb)
    | (go_at_call 65; refine (empty_0 _).mono ?_; rintro e w2 ⟨rfl, hb⟩; replace HB := Aside0.mk (by first | exact below_then HB.out HB.out.size hb | exact below_then (below_drew HB.out) (below_drew HB.out).size hb | exact below_then (pw_below_drewN HB.out _) (pw_below_drewN HB.out _).size hb); clear hb)
    | (go_at_call 11; refine (mn_0 _).mono ?_; rintro e w2 ⟨rfl, hb⟩; replace HB := Aside0.mk (by first | exact below_then HB.out HB.out.size hb | exact below_then (below_drew HB.out) (below_drew HB.out).size hb | exact below_then (pw_below_drewN HB.out _) (pw_below_drewN HB.out _).size hb); clear hb))
  all_goals (go_wp2_with fail; go_ret3; refine ⟨rfl, ?_⟩; (first | exact HB.out | exact below_drew HB.out | exact pw_below_drewN HB.out _))
end Go.Proofs.Ytkhodhebhjbfpaa.LabF
