/- Requirements: NewRequirement, made and the small methods walked. -/
import Derived.Test.YtjlmhfciidfjiaaDoorXFnNeedNotx4
import Derived.Test.YtjlmhfciidfjiaaDoorLabS
import Derived.Deep.RegionWith
import Derived.Deep.QuietTactic
import Derived.BigQuiet
set_option linter.unusedSimpArgs false
set_option linter.unusedVariables false
namespace Go.Proofs.YtjlmhfciidfjiaaDoor.NdR
open Go.RowKit Go.Maps Go.Proofs.YtjlmhfciidfjiaaDoorW.PrintWords Go.Proofs.YtjlmhfciidfjiaaDoorW.PrintLast Go.Proofs.YtjlmhfciidfjiaaDoor.EvL Go.Proofs.YtjlmhfciidfjiaaDoor.SetGen Go.Proofs.YtjlmhfciidfjiaaDoor.MapGen Go.Proofs.YtjlmhfciidfjiaaDoor.XFnNeedNot Go.Proofs.YtjlmhfciidfjiaaDoor.LabS
/-- A requirement in its block. -/
def Rq (w : World) (g : Nat) (key op : ByteArray) (A : Option Addr) (n c : Nat) : Prop := w.heap[g]? = some (.cells #[.string key, .string op, .slice A n c] 59 (0, 0))
theorem Rq.below {w w1 : World} {g : Nat} {key op : ByteArray} {A : Option Addr} {n c : Nat} (h : Rq w g key op A n c) (hb : Below w.heap.size w w1) : Rq w1 g key op A n c := (hb.block g (blk_lt h)).trans h
theorem Rq.c {w : World} {g : Nat} {key op : ByteArray} {A : Option Addr} {n c : Nat} (h : Rq w g key op A n c) : w.cell? ⟨g, 0, none⟩ = some (.string key) ∧ w.cell? ⟨g, 1, none⟩ = some (.string op) ∧ w.cell? ⟨g, 2, none⟩ = some (.slice A n c) :=
  ⟨(blk_cell h 0).trans rfl, (blk_cell h 1).trans rfl, (blk_cell h 2).trans rfl⟩
abbrev o_in : ByteArray := ⟨#[105, 110]⟩
abbrev o_notin : ByteArray := ⟨#[110, 111, 116, 105, 110]⟩
abbrev o_eq : ByteArray := ⟨#[61]⟩
abbrev o_eq2 : ByteArray := ⟨#[61, 61]⟩
abbrev o_ne : ByteArray := ⟨#[33, 61]⟩
abbrev o_ex : ByteArray := ⟨#[101, 120, 105, 115, 116, 115]⟩
abbrev o_nx : ByteArray := ⟨#[33]⟩
abbrev o_gt : ByteArray := ⟨#[103, 116]⟩
abbrev o_lt : ByteArray := ⟨#[108, 116]⟩
set_option maxHeartbeats 2000000 in
set_option maxRecDepth 100000 in
theorem new_in (key : ByteArray) (A : Option Addr) (n c : Nat) (w : World) (hn : ¬ n = 0) :
    Calls Tryd.prog 23 #[.string key, .string o_in, .slice A n c, .slice none 0 0] w fun e w' => ∃ g, e = .returned (.tuple #[.pointer (some ⟨g, 0, none⟩), .nilIface]) ∧ w.heap.size ≤ g ∧ Rq w' g key o_in A n c ∧ Below w.heap.size w w' := by
  go_enter Tryd.func23, Tryd.ntmps23
  go_wp2_with fail
  go_ret2
  exact ⟨w.heap.size, rfl, Nat.le_refl _, heap_alloc_new w _, below_alloc (Below.refl _ _) _⟩
set_option maxHeartbeats 2000000 in
set_option maxRecDepth 100000 in
theorem new_notin (key : ByteArray) (A : Option Addr) (n c : Nat) (w : World) (hn : ¬ n = 0) :
    Calls Tryd.prog 23 #[.string key, .string o_notin, .slice A n c, .slice none 0 0] w fun e w' => ∃ g, e = .returned (.tuple #[.pointer (some ⟨g, 0, none⟩), .nilIface]) ∧ w.heap.size ≤ g ∧ Rq w' g key o_notin A n c ∧ Below w.heap.size w w' := by
  go_enter Tryd.func23, Tryd.ntmps23
  go_wp2_with fail
  go_ret2
  exact ⟨w.heap.size, rfl, Nat.le_refl _, heap_alloc_new w _, below_alloc (Below.refl _ _) _⟩
set_option maxHeartbeats 2000000 in
set_option maxRecDepth 100000 in
theorem new_eq (key : ByteArray) (A : Option Addr) (n c : Nat) (w : World) (hn : n = 1) :
    Calls Tryd.prog 23 #[.string key, .string o_eq, .slice A n c, .slice none 0 0] w fun e w' => ∃ g, e = .returned (.tuple #[.pointer (some ⟨g, 0, none⟩), .nilIface]) ∧ w.heap.size ≤ g ∧ Rq w' g key o_eq A n c ∧ Below w.heap.size w w' := by
  subst hn
  go_enter Tryd.func23, Tryd.ntmps23
  go_wp2_with fail
  go_ret2
  exact ⟨w.heap.size, rfl, Nat.le_refl _, heap_alloc_new w _, below_alloc (Below.refl _ _) _⟩
set_option maxHeartbeats 2000000 in
set_option maxRecDepth 100000 in
theorem new_eq2 (key : ByteArray) (A : Option Addr) (n c : Nat) (w : World) (hn : n = 1) :
    Calls Tryd.prog 23 #[.string key, .string o_eq2, .slice A n c, .slice none 0 0] w fun e w' => ∃ g, e = .returned (.tuple #[.pointer (some ⟨g, 0, none⟩), .nilIface]) ∧ w.heap.size ≤ g ∧ Rq w' g key o_eq2 A n c ∧ Below w.heap.size w w' := by
  subst hn
  go_enter Tryd.func23, Tryd.ntmps23
  go_wp2_with fail
  go_ret2
  exact ⟨w.heap.size, rfl, Nat.le_refl _, heap_alloc_new w _, below_alloc (Below.refl _ _) _⟩
set_option maxHeartbeats 2000000 in
set_option maxRecDepth 100000 in
theorem new_ne (key : ByteArray) (A : Option Addr) (n c : Nat) (w : World) (hn : n = 1) :
    Calls Tryd.prog 23 #[.string key, .string o_ne, .slice A n c, .slice none 0 0] w fun e w' => ∃ g, e = .returned (.tuple #[.pointer (some ⟨g, 0, none⟩), .nilIface]) ∧ w.heap.size ≤ g ∧ Rq w' g key o_ne A n c ∧ Below w.heap.size w w' := by
  subst hn
  go_enter Tryd.func23, Tryd.ntmps23
  go_wp2_with fail
  go_ret2
  exact ⟨w.heap.size, rfl, Nat.le_refl _, heap_alloc_new w _, below_alloc (Below.refl _ _) _⟩
set_option maxHeartbeats 2000000 in
set_option maxRecDepth 100000 in
theorem new_ex (key : ByteArray) (A : Option Addr) (n c : Nat) (w : World) (hn : n = 0) :
    Calls Tryd.prog 23 #[.string key, .string o_ex, .slice A n c, .slice none 0 0] w fun e w' => ∃ g, e = .returned (.tuple #[.pointer (some ⟨g, 0, none⟩), .nilIface]) ∧ w.heap.size ≤ g ∧ Rq w' g key o_ex A n c ∧ Below w.heap.size w w' := by
  subst hn
  go_enter Tryd.func23, Tryd.ntmps23
  go_wp2_with fail
  go_ret2
  exact ⟨w.heap.size, rfl, Nat.le_refl _, heap_alloc_new w _, below_alloc (Below.refl _ _) _⟩
set_option maxHeartbeats 2000000 in
set_option maxRecDepth 100000 in
theorem new_nx (key : ByteArray) (A : Option Addr) (n c : Nat) (w : World) (hn : n = 0) :
    Calls Tryd.prog 23 #[.string key, .string o_nx, .slice A n c, .slice none 0 0] w fun e w' => ∃ g, e = .returned (.tuple #[.pointer (some ⟨g, 0, none⟩), .nilIface]) ∧ w.heap.size ≤ g ∧ Rq w' g key o_nx A n c ∧ Below w.heap.size w w' := by
  subst hn
  go_enter Tryd.func23, Tryd.ntmps23
  go_wp2_with fail
  go_ret2
  exact ⟨w.heap.size, rfl, Nat.le_refl _, heap_alloc_new w _, below_alloc (Below.refl _ _) _⟩
set_option maxHeartbeats 1000000 in
theorem lookup_some (b N : Nat) (f : ByteArray → Option ByteArray) (key : ByteArray) (hk : key.size ≤ maxLen) (u : ByteArray) (hf : f key = some u) (w : World) (hM : M w b N f) :
    Calls Tryd.prog 76 #[.map (some b), .string key] w fun e w' => e = .returned (.tuple #[.string u, .bool true]) ∧ w = w' := by
  replace hM := Aside0.mk hM
  replace hf := Aside0.mk hf
  go_enter Tryd.func76, Tryd.ntmps76
  go_wp2_with (first
    | (at_lookup; refine MapGen.wp_look2_some _ kstr rfl _ _ 45 rfl Tryd.underlying45 (zeroS _) b N f rfl hM.out key u hk hf.out rfl ?_)
    | go_in)
  go_ret2
  exact ⟨rfl, rfl⟩
set_option maxHeartbeats 1000000 in
theorem lookup_none (b N : Nat) (f : ByteArray → Option ByteArray) (key : ByteArray) (hk : key.size ≤ maxLen) (hf : f key = none) (w : World) (hM : M w b N f) :
    Calls Tryd.prog 76 #[.map (some b), .string key] w fun e w' => e = .returned (.tuple #[.string E0, .bool false]) ∧ w = w' := by
  replace hM := Aside0.mk hM
  replace hf := Aside0.mk hf
  go_enter Tryd.func76, Tryd.ntmps76
  go_wp2_with (first
    | (at_lookup; refine MapGen.wp_look2_none _ kstr rfl _ _ 45 rfl Tryd.underlying45 (zeroS _) b N f rfl hM.out key hk hf.out rfl ?_)
    | go_in)
  go_ret2
  exact ⟨rfl, rfl⟩
set_option maxHeartbeats 1000000 in
theorem has_some (b N : Nat) (f : ByteArray → Option ByteArray) (key : ByteArray) (hk : key.size ≤ maxLen) (u : ByteArray) (hf : f key = some u) (w : World) (hM : M w b N f) :
    Calls Tryd.prog 75 #[.map (some b), .string key] w fun e w' => e = .returned (.bool true) ∧ w = w' := by
  replace hM := Aside0.mk hM
  replace hf := Aside0.mk hf
  go_enter Tryd.func75, Tryd.ntmps75
  go_wp2_with (first
    | (at_lookup; refine MapGen.wp_look2_some _ kstr rfl _ _ 45 rfl Tryd.underlying45 (zeroS _) b N f rfl hM.out key u hk hf.out rfl ?_)
    | go_in)
  go_ret
  exact ⟨rfl, rfl⟩
set_option maxHeartbeats 1000000 in
theorem has_none (b N : Nat) (f : ByteArray → Option ByteArray) (key : ByteArray) (hk : key.size ≤ maxLen) (hf : f key = none) (w : World) (hM : M w b N f) :
    Calls Tryd.prog 75 #[.map (some b), .string key] w fun e w' => e = .returned (.bool false) ∧ w = w' := by
  replace hM := Aside0.mk hM
  replace hf := Aside0.mk hf
  go_enter Tryd.func75, Tryd.ntmps75
  go_wp2_with (first
    | (at_lookup; refine MapGen.wp_look2_none _ kstr rfl _ _ 45 rfl Tryd.underlying45 (zeroS _) b N f rfl hM.out key hk hf.out rfl ?_)
    | go_in)
  go_ret
  exact ⟨rfl, rfl⟩
set_option maxHeartbeats 1000000 in
set_option maxRecDepth 100000 in
theorem hasValue_c (g : Nat) (key op : ByteArray) (A : Option Addr) (c : Nat) (l : List ByteArray) (x : ByteArray) (w : World) (hR : Rq w g key op A l.length c) (hC : Kd.string.C w A l.length l) (hl : l.length ≤ 4294967296) :
    Calls Tryd.prog 25 #[.pointer (some ⟨g, 0, none⟩), .string x] w fun e w' => e = .returned (.bool (decide (x ∈ l))) ∧ w = w' := by
  obtain ⟨_, _, z2⟩ := hR.c
  have hC := Aside0.mk hC
  have hlx := Aside0.mk hl
  go_enter Tryd.func25, Tryd.ntmps25
  go_wp2_with fail
  go_loopw [11] (fun i wr => ∃ k : Nat, k ≤ l.length ∧ i = .int .i64 (k : Int) ∧ Aside0 (∀ y ∈ l.take k, y ≠ x) ∧ wr = w) (fun i _ => l.length - (intOf i).toNat)
  case atStart => exact ⟨0, Nat.zero_le _, rfl, ⟨fun y hy => by simp at hy⟩, rfl⟩
  case round =>
    obtain ⟨k, hk, rfl, hn, rfl⟩ := hrel
    by_cases c3 : k < l.length
    · obtain ⟨ad, e1, hcell⟩ := Kd.at_string hC.out (k : Int) (Int.natCast_nonneg k) (by omega)
      obtain ⟨y, hy⟩ : ∃ y, y = l[k] := ⟨_, rfl⟩
      have hy2 : rdOf ByteArray.empty l (k : Int) = y := by rw [hy]; unfold rdOf; simp [c3]
      rw [hy2, Int.toNat_natCast] at hcell
      cases e1
      clear hy2
      by_cases hyx : y = x
      · have hm : decide (x ∈ l) = true := decide_eq_true (by rw [← hyx, hy]; exact List.getElem_mem c3)
        replace hm := Aside0.mk hm
        replace hy := Aside0.mk hy
        subst hyx
        go_wp2_with fail
        go_ret
        exact ⟨by rw [hm.out]; rfl, rfl⟩
      · have hne : (y.toList == x.toList) = false := beq_eq_false_iff_ne.mpr (fun e => hyx (ByteArray.ext (Array.ext' (by rwa [ByteArray.toList_eq, ByteArray.toList_eq] at e))))
        have hn2 : ∀ z ∈ l.take (k + 1), z ≠ x := fun z hz => by
          rw [List.take_succ_eq_append_getElem c3, List.mem_append] at hz
          rcases hz with hz | hz
          · exact hn.out z hz
          · rw [List.mem_singleton.1 hz, ← hy]; exact hyx
        replace hn2 := Aside0.mk hn2
        replace hy := Aside0.mk hy
        replace hyx := Aside0.mk hyx
        have hk2 : (k : Int) + 1 ≤ 9223372036854775807 := by have := hlx.out; omega
        go_wp2_with fail
        go_roundw
        case rel => exact ⟨k + 1, c3, by go_num, hn2, trivial⟩
        case measure => simp [intOf]; omega
    · have hke : k = l.length := by omega
      have hm : decide (x ∈ l) = false := decide_eq_false (fun h => by have := hn.out; rw [hke, List.take_length] at this; exact this x h rfl)
      replace hm := Aside0.mk hm
      clear hke
      go_wp2_with fail
      go_ret
      exact ⟨by rw [hm.out]; rfl, rfl⟩
end Go.Proofs.YtjlmhfciidfjiaaDoor.NdR
