/- Requirements: what matches. -/
import Derived.Test.YtjlmhfciidfjiaaDoorNdP
import Derived.Deep.RegionWith
set_option linter.unusedSimpArgs false
set_option linter.unusedVariables false
namespace Go.Proofs.YtjlmhfciidfjiaaDoor.NdQ
open Go.RowKit Go.Maps Go.Proofs.YtjlmhfciidfjiaaDoorW.PrintWords Go.Proofs.YtjlmhfciidfjiaaDoorW.PrintLast Go.Proofs.YtjlmhfciidfjiaaDoor.EvL Go.Proofs.YtjlmhfciidfjiaaDoor.SetGen Go.Proofs.YtjlmhfciidfjiaaDoor.MapGen Go.Proofs.YtjlmhfciidfjiaaDoor.XFnNeedNot Go.Proofs.YtjlmhfciidfjiaaDoor.LabS Go.Proofs.YtjlmhfciidfjiaaDoor.NdR Go.Proofs.YtjlmhfciidfjiaaDoor.NdP
theorem na_L (b : Option Nat) (w : World) : Sem.run Tryd.prog (nilAhead 226 45 (.map b) "Lookup") w = .ok (some false) w := by kernel_rfl
theorem me_L (b : Option Nat) (w : World) : Sem.run Tryd.prog (method 226 45 (.map b) "Lookup") w = .ok (76, .map b) w := by kernel_rfl
theorem na_H (b : Option Nat) (w : World) : Sem.run Tryd.prog (nilAhead 226 45 (.map b) "Has") w = .ok (some false) w := by kernel_rfl
theorem me_H (b : Option Nat) (w : World) : Sem.run Tryd.prog (method 226 45 (.map b) "Has") w = .ok (75, .map b) w := by kernel_rfl
set_option maxHeartbeats 4000000 in
set_option maxRecDepth 100000 in
theorem mt_in_some (g : Nat) (key : ByteArray) (hkey : key.size ≤ maxLen) (A : Option Addr) (c : Nat) (l : List ByteArray) (b N : Nat) (f : ByteArray → Option ByteArray) (w : World) (hM : M w b N f) (hR : Rq w g key o_in A l.length c) (hC : Kd.string.C w A l.length l) (hl : l.length ≤ 4294967296) (u : ByteArray) (hf : f key = some u) :
    Calls Tryd.prog 14 #[.pointer (some ⟨g, 0, none⟩), .iface 45 (.map (some b))] w fun e w' => e = .returned (.bool (decide (u ∈ l))) ∧ Below w.heap.size w w' := by
  obtain ⟨z0, z1, _⟩ := hR.c
  have hq := Aside0.mk (fun W (hb : Below w.heap.size w W) => lookup_some b N f key hkey u hf W (M_below hM hb))
  have hh := Aside0.mk (fun W (hb : Below w.heap.size w W) => hasValue_c g key o_in A c l u W (hR.below hb) (Kd.C_below hC hb) hl)
  obtain ⟨rb, hrb⟩ : ∃ rb, decide (u ∈ l) = rb := ⟨_, rfl⟩
  rw [hrb] at hh
  rw [hrb]
  have hX := Aside0.mk (Below.refl w.heap.size w)
  have a1 := na_L
  have a2 := me_L
  clear hM hR hC hl hf
  go_enter Tryd.func14, Tryd.ntmps14
  go_wp2_with fail
  go_region_with (go_at_call 76; refine (hq.out _ ?_).mono ?_; (first | exact hX.out | exact below_drew hX.out | exact pw_below_drewN hX.out _); rintro e w6 ⟨rfl, rfl⟩)
  all_goals (go_wp2_with fail)
  all_goals
    refine (hh.out _ (by first | exact hX.out | exact below_drew hX.out | exact pw_below_drewN hX.out _)).mono ?_
    rintro e w7 ⟨rfl, rfl⟩
    go_wp2_with fail
  all_goals
    go_ret
    exact ⟨rfl, by first | exact hX.out | exact below_drew hX.out | exact pw_below_drewN hX.out _⟩
set_option maxHeartbeats 4000000 in
set_option maxRecDepth 100000 in
theorem mt_in_none (g : Nat) (key : ByteArray) (hkey : key.size ≤ maxLen) (A : Option Addr) (c : Nat) (l : List ByteArray) (b N : Nat) (f : ByteArray → Option ByteArray) (w : World) (hM : M w b N f) (hR : Rq w g key o_in A l.length c) (hC : Kd.string.C w A l.length l) (hl : l.length ≤ 4294967296) (hf : f key = none) :
    Calls Tryd.prog 14 #[.pointer (some ⟨g, 0, none⟩), .iface 45 (.map (some b))] w fun e w' => e = .returned (.bool (false)) ∧ Below w.heap.size w w' := by
  obtain ⟨z0, z1, _⟩ := hR.c
  have hq := Aside0.mk (fun W (hb : Below w.heap.size w W) => lookup_none b N f key hkey hf W (M_below hM hb))
  have hX := Aside0.mk (Below.refl w.heap.size w)
  have a1 := na_L
  have a2 := me_L
  clear hM hR hC hl hf
  go_enter Tryd.func14, Tryd.ntmps14
  go_wp2_with fail
  go_region_with (go_at_call 76; refine (hq.out _ ?_).mono ?_; (first | exact hX.out | exact below_drew hX.out | exact pw_below_drewN hX.out _); rintro e w6 ⟨rfl, rfl⟩)
  all_goals (go_wp2_with fail)
  all_goals
    go_ret
    exact ⟨rfl, by first | exact hX.out | exact below_drew hX.out | exact pw_below_drewN hX.out _⟩
set_option maxHeartbeats 4000000 in
set_option maxRecDepth 100000 in
theorem mt_eq_some (g : Nat) (key : ByteArray) (hkey : key.size ≤ maxLen) (A : Option Addr) (c : Nat) (l : List ByteArray) (b N : Nat) (f : ByteArray → Option ByteArray) (w : World) (hM : M w b N f) (hR : Rq w g key o_eq A l.length c) (hC : Kd.string.C w A l.length l) (hl : l.length ≤ 4294967296) (u : ByteArray) (hf : f key = some u) :
    Calls Tryd.prog 14 #[.pointer (some ⟨g, 0, none⟩), .iface 45 (.map (some b))] w fun e w' => e = .returned (.bool (decide (u ∈ l))) ∧ Below w.heap.size w w' := by
  obtain ⟨z0, z1, _⟩ := hR.c
  have hq := Aside0.mk (fun W (hb : Below w.heap.size w W) => lookup_some b N f key hkey u hf W (M_below hM hb))
  have hh := Aside0.mk (fun W (hb : Below w.heap.size w W) => hasValue_c g key o_eq A c l u W (hR.below hb) (Kd.C_below hC hb) hl)
  obtain ⟨rb, hrb⟩ : ∃ rb, decide (u ∈ l) = rb := ⟨_, rfl⟩
  rw [hrb] at hh
  rw [hrb]
  have hX := Aside0.mk (Below.refl w.heap.size w)
  have a1 := na_L
  have a2 := me_L
  clear hM hR hC hl hf
  go_enter Tryd.func14, Tryd.ntmps14
  go_wp2_with fail
  go_region_with (go_at_call 76; refine (hq.out _ ?_).mono ?_; (first | exact hX.out | exact below_drew hX.out | exact pw_below_drewN hX.out _); rintro e w6 ⟨rfl, rfl⟩)
  all_goals (go_wp2_with fail)
  all_goals
    refine (hh.out _ (by first | exact hX.out | exact below_drew hX.out | exact pw_below_drewN hX.out _)).mono ?_
    rintro e w7 ⟨rfl, rfl⟩
    go_wp2_with fail
  all_goals
    go_ret
    exact ⟨rfl, by first | exact hX.out | exact below_drew hX.out | exact pw_below_drewN hX.out _⟩
set_option maxHeartbeats 4000000 in
set_option maxRecDepth 100000 in
theorem mt_eq_none (g : Nat) (key : ByteArray) (hkey : key.size ≤ maxLen) (A : Option Addr) (c : Nat) (l : List ByteArray) (b N : Nat) (f : ByteArray → Option ByteArray) (w : World) (hM : M w b N f) (hR : Rq w g key o_eq A l.length c) (hC : Kd.string.C w A l.length l) (hl : l.length ≤ 4294967296) (hf : f key = none) :
    Calls Tryd.prog 14 #[.pointer (some ⟨g, 0, none⟩), .iface 45 (.map (some b))] w fun e w' => e = .returned (.bool (false)) ∧ Below w.heap.size w w' := by
  obtain ⟨z0, z1, _⟩ := hR.c
  have hq := Aside0.mk (fun W (hb : Below w.heap.size w W) => lookup_none b N f key hkey hf W (M_below hM hb))
  have hX := Aside0.mk (Below.refl w.heap.size w)
  have a1 := na_L
  have a2 := me_L
  clear hM hR hC hl hf
  go_enter Tryd.func14, Tryd.ntmps14
  go_wp2_with fail
  go_region_with (go_at_call 76; refine (hq.out _ ?_).mono ?_; (first | exact hX.out | exact below_drew hX.out | exact pw_below_drewN hX.out _); rintro e w6 ⟨rfl, rfl⟩)
  all_goals (go_wp2_with fail)
  all_goals
    go_ret
    exact ⟨rfl, by first | exact hX.out | exact below_drew hX.out | exact pw_below_drewN hX.out _⟩
set_option maxHeartbeats 4000000 in
set_option maxRecDepth 100000 in
theorem mt_eq2_some (g : Nat) (key : ByteArray) (hkey : key.size ≤ maxLen) (A : Option Addr) (c : Nat) (l : List ByteArray) (b N : Nat) (f : ByteArray → Option ByteArray) (w : World) (hM : M w b N f) (hR : Rq w g key o_eq2 A l.length c) (hC : Kd.string.C w A l.length l) (hl : l.length ≤ 4294967296) (u : ByteArray) (hf : f key = some u) :
    Calls Tryd.prog 14 #[.pointer (some ⟨g, 0, none⟩), .iface 45 (.map (some b))] w fun e w' => e = .returned (.bool (decide (u ∈ l))) ∧ Below w.heap.size w w' := by
  obtain ⟨z0, z1, _⟩ := hR.c
  have hq := Aside0.mk (fun W (hb : Below w.heap.size w W) => lookup_some b N f key hkey u hf W (M_below hM hb))
  have hh := Aside0.mk (fun W (hb : Below w.heap.size w W) => hasValue_c g key o_eq2 A c l u W (hR.below hb) (Kd.C_below hC hb) hl)
  obtain ⟨rb, hrb⟩ : ∃ rb, decide (u ∈ l) = rb := ⟨_, rfl⟩
  rw [hrb] at hh
  rw [hrb]
  have hX := Aside0.mk (Below.refl w.heap.size w)
  have a1 := na_L
  have a2 := me_L
  clear hM hR hC hl hf
  go_enter Tryd.func14, Tryd.ntmps14
  go_wp2_with fail
  go_region_with (go_at_call 76; refine (hq.out _ ?_).mono ?_; (first | exact hX.out | exact below_drew hX.out | exact pw_below_drewN hX.out _); rintro e w6 ⟨rfl, rfl⟩)
  all_goals (go_wp2_with fail)
  all_goals
    refine (hh.out _ (by first | exact hX.out | exact below_drew hX.out | exact pw_below_drewN hX.out _)).mono ?_
    rintro e w7 ⟨rfl, rfl⟩
    go_wp2_with fail
  all_goals
    go_ret
    exact ⟨rfl, by first | exact hX.out | exact below_drew hX.out | exact pw_below_drewN hX.out _⟩
set_option maxHeartbeats 4000000 in
set_option maxRecDepth 100000 in
theorem mt_eq2_none (g : Nat) (key : ByteArray) (hkey : key.size ≤ maxLen) (A : Option Addr) (c : Nat) (l : List ByteArray) (b N : Nat) (f : ByteArray → Option ByteArray) (w : World) (hM : M w b N f) (hR : Rq w g key o_eq2 A l.length c) (hC : Kd.string.C w A l.length l) (hl : l.length ≤ 4294967296) (hf : f key = none) :
    Calls Tryd.prog 14 #[.pointer (some ⟨g, 0, none⟩), .iface 45 (.map (some b))] w fun e w' => e = .returned (.bool (false)) ∧ Below w.heap.size w w' := by
  obtain ⟨z0, z1, _⟩ := hR.c
  have hq := Aside0.mk (fun W (hb : Below w.heap.size w W) => lookup_none b N f key hkey hf W (M_below hM hb))
  have hX := Aside0.mk (Below.refl w.heap.size w)
  have a1 := na_L
  have a2 := me_L
  clear hM hR hC hl hf
  go_enter Tryd.func14, Tryd.ntmps14
  go_wp2_with fail
  go_region_with (go_at_call 76; refine (hq.out _ ?_).mono ?_; (first | exact hX.out | exact below_drew hX.out | exact pw_below_drewN hX.out _); rintro e w6 ⟨rfl, rfl⟩)
  all_goals (go_wp2_with fail)
  all_goals
    go_ret
    exact ⟨rfl, by first | exact hX.out | exact below_drew hX.out | exact pw_below_drewN hX.out _⟩
set_option maxHeartbeats 4000000 in
set_option maxRecDepth 100000 in
theorem mt_notin_some (g : Nat) (key : ByteArray) (hkey : key.size ≤ maxLen) (A : Option Addr) (c : Nat) (l : List ByteArray) (b N : Nat) (f : ByteArray → Option ByteArray) (w : World) (hM : M w b N f) (hR : Rq w g key o_notin A l.length c) (hC : Kd.string.C w A l.length l) (hl : l.length ≤ 4294967296) (u : ByteArray) (hf : f key = some u) :
    Calls Tryd.prog 14 #[.pointer (some ⟨g, 0, none⟩), .iface 45 (.map (some b))] w fun e w' => e = .returned (.bool (!decide (u ∈ l))) ∧ Below w.heap.size w w' := by
  obtain ⟨z0, z1, _⟩ := hR.c
  have hq := Aside0.mk (fun W (hb : Below w.heap.size w W) => lookup_some b N f key hkey u hf W (M_below hM hb))
  have hh := Aside0.mk (fun W (hb : Below w.heap.size w W) => hasValue_c g key o_notin A c l u W (hR.below hb) (Kd.C_below hC hb) hl)
  obtain ⟨rb, hrb⟩ : ∃ rb, decide (u ∈ l) = rb := ⟨_, rfl⟩
  rw [hrb] at hh
  rw [hrb]
  have hX := Aside0.mk (Below.refl w.heap.size w)
  have a1 := na_L
  have a2 := me_L
  clear hM hR hC hl hf
  go_enter Tryd.func14, Tryd.ntmps14
  go_wp2_with fail
  go_region_with (go_at_call 76; refine (hq.out _ ?_).mono ?_; (first | exact hX.out | exact below_drew hX.out | exact pw_below_drewN hX.out _); rintro e w6 ⟨rfl, rfl⟩)
  all_goals (go_wp2_with fail)
  all_goals
    refine (hh.out _ (by first | exact hX.out | exact below_drew hX.out | exact pw_below_drewN hX.out _)).mono ?_
    rintro e w7 ⟨rfl, rfl⟩
    go_wp2_with fail
  all_goals
    go_ret
    exact ⟨rfl, by first | exact hX.out | exact below_drew hX.out | exact pw_below_drewN hX.out _⟩
set_option maxHeartbeats 4000000 in
set_option maxRecDepth 100000 in
theorem mt_notin_none (g : Nat) (key : ByteArray) (hkey : key.size ≤ maxLen) (A : Option Addr) (c : Nat) (l : List ByteArray) (b N : Nat) (f : ByteArray → Option ByteArray) (w : World) (hM : M w b N f) (hR : Rq w g key o_notin A l.length c) (hC : Kd.string.C w A l.length l) (hl : l.length ≤ 4294967296) (hf : f key = none) :
    Calls Tryd.prog 14 #[.pointer (some ⟨g, 0, none⟩), .iface 45 (.map (some b))] w fun e w' => e = .returned (.bool (true)) ∧ Below w.heap.size w w' := by
  obtain ⟨z0, z1, _⟩ := hR.c
  have hq := Aside0.mk (fun W (hb : Below w.heap.size w W) => lookup_none b N f key hkey hf W (M_below hM hb))
  have hX := Aside0.mk (Below.refl w.heap.size w)
  have a1 := na_L
  have a2 := me_L
  clear hM hR hC hl hf
  go_enter Tryd.func14, Tryd.ntmps14
  go_wp2_with fail
  go_region_with (go_at_call 76; refine (hq.out _ ?_).mono ?_; (first | exact hX.out | exact below_drew hX.out | exact pw_below_drewN hX.out _); rintro e w6 ⟨rfl, rfl⟩)
  all_goals (go_wp2_with fail)
  all_goals
    go_ret
    exact ⟨rfl, by first | exact hX.out | exact below_drew hX.out | exact pw_below_drewN hX.out _⟩
set_option maxHeartbeats 4000000 in
set_option maxRecDepth 100000 in
theorem mt_ne_some (g : Nat) (key : ByteArray) (hkey : key.size ≤ maxLen) (A : Option Addr) (c : Nat) (l : List ByteArray) (b N : Nat) (f : ByteArray → Option ByteArray) (w : World) (hM : M w b N f) (hR : Rq w g key o_ne A l.length c) (hC : Kd.string.C w A l.length l) (hl : l.length ≤ 4294967296) (u : ByteArray) (hf : f key = some u) :
    Calls Tryd.prog 14 #[.pointer (some ⟨g, 0, none⟩), .iface 45 (.map (some b))] w fun e w' => e = .returned (.bool (!decide (u ∈ l))) ∧ Below w.heap.size w w' := by
  obtain ⟨z0, z1, _⟩ := hR.c
  have hq := Aside0.mk (fun W (hb : Below w.heap.size w W) => lookup_some b N f key hkey u hf W (M_below hM hb))
  have hh := Aside0.mk (fun W (hb : Below w.heap.size w W) => hasValue_c g key o_ne A c l u W (hR.below hb) (Kd.C_below hC hb) hl)
  obtain ⟨rb, hrb⟩ : ∃ rb, decide (u ∈ l) = rb := ⟨_, rfl⟩
  rw [hrb] at hh
  rw [hrb]
  have hX := Aside0.mk (Below.refl w.heap.size w)
  have a1 := na_L
  have a2 := me_L
  clear hM hR hC hl hf
  go_enter Tryd.func14, Tryd.ntmps14
  go_wp2_with fail
  go_region_with (go_at_call 76; refine (hq.out _ ?_).mono ?_; (first | exact hX.out | exact below_drew hX.out | exact pw_below_drewN hX.out _); rintro e w6 ⟨rfl, rfl⟩)
  all_goals (go_wp2_with fail)
  all_goals
    refine (hh.out _ (by first | exact hX.out | exact below_drew hX.out | exact pw_below_drewN hX.out _)).mono ?_
    rintro e w7 ⟨rfl, rfl⟩
    go_wp2_with fail
  all_goals
    go_ret
    exact ⟨rfl, by first | exact hX.out | exact below_drew hX.out | exact pw_below_drewN hX.out _⟩
set_option maxHeartbeats 4000000 in
set_option maxRecDepth 100000 in
theorem mt_ne_none (g : Nat) (key : ByteArray) (hkey : key.size ≤ maxLen) (A : Option Addr) (c : Nat) (l : List ByteArray) (b N : Nat) (f : ByteArray → Option ByteArray) (w : World) (hM : M w b N f) (hR : Rq w g key o_ne A l.length c) (hC : Kd.string.C w A l.length l) (hl : l.length ≤ 4294967296) (hf : f key = none) :
    Calls Tryd.prog 14 #[.pointer (some ⟨g, 0, none⟩), .iface 45 (.map (some b))] w fun e w' => e = .returned (.bool (true)) ∧ Below w.heap.size w w' := by
  obtain ⟨z0, z1, _⟩ := hR.c
  have hq := Aside0.mk (fun W (hb : Below w.heap.size w W) => lookup_none b N f key hkey hf W (M_below hM hb))
  have hX := Aside0.mk (Below.refl w.heap.size w)
  have a1 := na_L
  have a2 := me_L
  clear hM hR hC hl hf
  go_enter Tryd.func14, Tryd.ntmps14
  go_wp2_with fail
  go_region_with (go_at_call 76; refine (hq.out _ ?_).mono ?_; (first | exact hX.out | exact below_drew hX.out | exact pw_below_drewN hX.out _); rintro e w6 ⟨rfl, rfl⟩)
  all_goals (go_wp2_with fail)
  all_goals
    go_ret
    exact ⟨rfl, by first | exact hX.out | exact below_drew hX.out | exact pw_below_drewN hX.out _⟩
set_option maxHeartbeats 4000000 in
set_option maxRecDepth 100000 in
theorem mt_ex_some (g : Nat) (key : ByteArray) (hkey : key.size ≤ maxLen) (A : Option Addr) (c : Nat) (l : List ByteArray) (b N : Nat) (f : ByteArray → Option ByteArray) (w : World) (hM : M w b N f) (hR : Rq w g key o_ex A l.length c) (hC : Kd.string.C w A l.length l) (hl : l.length ≤ 4294967296) (u : ByteArray) (hf : f key = some u) :
    Calls Tryd.prog 14 #[.pointer (some ⟨g, 0, none⟩), .iface 45 (.map (some b))] w fun e w' => e = .returned (.bool (true)) ∧ Below w.heap.size w w' := by
  obtain ⟨z0, z1, _⟩ := hR.c
  have hq := Aside0.mk (fun W (hb : Below w.heap.size w W) => has_some b N f key hkey u hf W (M_below hM hb))
  have hX := Aside0.mk (Below.refl w.heap.size w)
  have a1 := na_H
  have a2 := me_H
  clear hM hR hC hl hf
  go_enter Tryd.func14, Tryd.ntmps14
  go_wp2_with fail
  go_region_with (go_at_call 75; refine (hq.out _ ?_).mono ?_; (first | exact hX.out | exact below_drew hX.out | exact pw_below_drewN hX.out _); rintro e w6 ⟨rfl, rfl⟩)
  all_goals (go_wp2_with fail)
  all_goals
    go_ret
    exact ⟨rfl, by first | exact hX.out | exact below_drew hX.out | exact pw_below_drewN hX.out _⟩
set_option maxHeartbeats 4000000 in
set_option maxRecDepth 100000 in
theorem mt_ex_none (g : Nat) (key : ByteArray) (hkey : key.size ≤ maxLen) (A : Option Addr) (c : Nat) (l : List ByteArray) (b N : Nat) (f : ByteArray → Option ByteArray) (w : World) (hM : M w b N f) (hR : Rq w g key o_ex A l.length c) (hC : Kd.string.C w A l.length l) (hl : l.length ≤ 4294967296) (hf : f key = none) :
    Calls Tryd.prog 14 #[.pointer (some ⟨g, 0, none⟩), .iface 45 (.map (some b))] w fun e w' => e = .returned (.bool (false)) ∧ Below w.heap.size w w' := by
  obtain ⟨z0, z1, _⟩ := hR.c
  have hq := Aside0.mk (fun W (hb : Below w.heap.size w W) => has_none b N f key hkey hf W (M_below hM hb))
  have hX := Aside0.mk (Below.refl w.heap.size w)
  have a1 := na_H
  have a2 := me_H
  clear hM hR hC hl hf
  go_enter Tryd.func14, Tryd.ntmps14
  go_wp2_with fail
  go_region_with (go_at_call 75; refine (hq.out _ ?_).mono ?_; (first | exact hX.out | exact below_drew hX.out | exact pw_below_drewN hX.out _); rintro e w6 ⟨rfl, rfl⟩)
  all_goals (go_wp2_with fail)
  all_goals
    go_ret
    exact ⟨rfl, by first | exact hX.out | exact below_drew hX.out | exact pw_below_drewN hX.out _⟩
set_option maxHeartbeats 4000000 in
set_option maxRecDepth 100000 in
theorem mt_nx_some (g : Nat) (key : ByteArray) (hkey : key.size ≤ maxLen) (A : Option Addr) (c : Nat) (l : List ByteArray) (b N : Nat) (f : ByteArray → Option ByteArray) (w : World) (hM : M w b N f) (hR : Rq w g key o_nx A l.length c) (hC : Kd.string.C w A l.length l) (hl : l.length ≤ 4294967296) (u : ByteArray) (hf : f key = some u) :
    Calls Tryd.prog 14 #[.pointer (some ⟨g, 0, none⟩), .iface 45 (.map (some b))] w fun e w' => e = .returned (.bool (false)) ∧ Below w.heap.size w w' := by
  obtain ⟨z0, z1, _⟩ := hR.c
  have hq := Aside0.mk (fun W (hb : Below w.heap.size w W) => has_some b N f key hkey u hf W (M_below hM hb))
  have hX := Aside0.mk (Below.refl w.heap.size w)
  have a1 := na_H
  have a2 := me_H
  clear hM hR hC hl hf
  go_enter Tryd.func14, Tryd.ntmps14
  go_wp2_with fail
  go_region_with (go_at_call 75; refine (hq.out _ ?_).mono ?_; (first | exact hX.out | exact below_drew hX.out | exact pw_below_drewN hX.out _); rintro e w6 ⟨rfl, rfl⟩)
  all_goals (go_wp2_with fail)
  all_goals
    go_ret
    exact ⟨rfl, by first | exact hX.out | exact below_drew hX.out | exact pw_below_drewN hX.out _⟩
set_option maxHeartbeats 4000000 in
set_option maxRecDepth 100000 in
theorem mt_nx_none (g : Nat) (key : ByteArray) (hkey : key.size ≤ maxLen) (A : Option Addr) (c : Nat) (l : List ByteArray) (b N : Nat) (f : ByteArray → Option ByteArray) (w : World) (hM : M w b N f) (hR : Rq w g key o_nx A l.length c) (hC : Kd.string.C w A l.length l) (hl : l.length ≤ 4294967296) (hf : f key = none) :
    Calls Tryd.prog 14 #[.pointer (some ⟨g, 0, none⟩), .iface 45 (.map (some b))] w fun e w' => e = .returned (.bool (true)) ∧ Below w.heap.size w w' := by
  obtain ⟨z0, z1, _⟩ := hR.c
  have hq := Aside0.mk (fun W (hb : Below w.heap.size w W) => has_none b N f key hkey hf W (M_below hM hb))
  have hX := Aside0.mk (Below.refl w.heap.size w)
  have a1 := na_H
  have a2 := me_H
  clear hM hR hC hl hf
  go_enter Tryd.func14, Tryd.ntmps14
  go_wp2_with fail
  go_region_with (go_at_call 75; refine (hq.out _ ?_).mono ?_; (first | exact hX.out | exact below_drew hX.out | exact pw_below_drewN hX.out _); rintro e w6 ⟨rfl, rfl⟩)
  all_goals (go_wp2_with fail)
  all_goals
    go_ret
    exact ⟨rfl, by first | exact hX.out | exact below_drew hX.out | exact pw_below_drewN hX.out _⟩
end Go.Proofs.YtjlmhfciidfjiaaDoor.NdQ
