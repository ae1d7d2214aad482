/- Requirements: comparisons' numbers, and what matches. -/
import Derived.Test.YtjlmhfciidfjiaaDoorNdR
import Derived.Test.YtjlmhfciidfjiaaDoorShelf
import Derived.Test.YtjlmhfciidfjiaaDoorVars
import Derived.Deep.RegionWith
set_option linter.unusedSimpArgs false
set_option linter.unusedVariables false
namespace Go.Proofs.YtjlmhfciidfjiaaDoor.NdP
open Go.RowKit Go.Maps Go.Proofs.YtjlmhfciidfjiaaDoorW.PrintWords Go.Proofs.YtjlmhfciidfjiaaDoorW.PrintLast Go.Proofs.YtjlmhfciidfjiaaDoor.EvL Go.Proofs.YtjlmhfciidfjiaaDoor.SetGen Go.Proofs.YtjlmhfciidfjiaaDoor.MapGen Go.Proofs.YtjlmhfciidfjiaaDoor.XFnNeedNot Go.Proofs.YtjlmhfciidfjiaaDoor.LabS Go.Proofs.YtjlmhfciidfjiaaDoor.NdR
/-- The whole number of 64 bits that a text tells. -/
def whole (s : ByteArray) : Option Int := Num.whole (-9223372036854775808) 9223372036854775807 s.data.toList
theorem pib64 (s : ByteArray) (v : Int) : Lib.parseIntB 64 s.data.toList = .ok v ↔ whole s = some v := Num.pib 64 (.inr rfl) s.data.toList v
theorem parse_ok (s : ByteArray) (hs : s.size ≤ 140737488351232) (v : Int) (hv : whole s = some v) (w : World) :
    Calls Tryd.prog 26 #[.string s, .int .i64 10, .int .i64 64] w fun e w' => e = .returned (.tuple #[.int .i64 v, .nilIface]) ∧ Below w.heap.size w w' := by
  refine (Tryd.strconv_ParseInt_10_at64_ok s (by omega) v ((pib64 s v).2 hv) w).mono ?_
  rintro e w' ⟨rfl, hW⟩
  refine ⟨rfl, ?_⟩
  rcases hW with rfl | ⟨t, rfl⟩
  · exact Below.refl _ _
  · exact Lib.bytesWorld_below _ _ _
theorem parse_bad (s : ByteArray) (hs : s.size ≤ 140737488351232) (hv : whole s = none) (w : World) (hV : Vars.Vars w) :
    Calls Tryd.prog 26 #[.string s, .int .i64 10, .int .i64 64] w fun e w' => ∃ n p, e = .returned (.tuple #[.int .i64 n, .iface 77 p]) ∧ Below w.heap.size w w' := by
  obtain ⟨⟨e0, hc0, he0⟩, ⟨e1, hc1, he1⟩⟩ := hV
  cases hq : Lib.parseIntB 64 s.data.toList with
  | ok v => rw [(pib64 s v).1 hq] at hv; cases hv
  | range =>
    refine (Tryd.strconv_ParseInt_10_at64_range s (by omega) hq e1 _ hc1 he1).mono ?_
    rintro e w1 ⟨N, rfl, _, _, hb⟩
    exact ⟨_, _, rfl, hb⟩
  | _ =>
    refine (Tryd.strconv_ParseInt_10_at64_syntax s (by omega) ⟨(fun _ hh => nomatch (hq.symm.trans hh)), (fun hh => nomatch (hq.symm.trans hh))⟩ e0 _ hc0 he0).mono ?_
    rintro e w1 ⟨N, rfl, _, _, hb⟩
    exact ⟨_, _, rfl, hb⟩
set_option maxHeartbeats 2000000 in
set_option maxRecDepth 100000 in
theorem new_gt (key : ByteArray) (A : Option Addr) (c : Nat) (x : ByteArray) (hx : x.size ≤ 140737488351232) (v : Int) (hv : whole x = some v) (w : World) (hC : Kd.string.C w A 1 [x]) :
    Calls Tryd.prog 23 #[.string key, .string o_gt, .slice A 1 c, .slice none 0 0] w fun e w' => ∃ g, e = .returned (.tuple #[.pointer (some ⟨g, 0, none⟩), .nilIface]) ∧ w.heap.size ≤ g ∧ Rq w' g key o_gt A 1 c ∧ Below w.heap.size w w' := by
  have hp := Aside0.mk (fun W => parse_ok x hx v hv W)
  replace hC := Aside0.mk hC
  replace hv := Aside0.mk hv
  go_enter Tryd.func23, Tryd.ntmps23
  go_wp2_with fail
  go_loopw [10, 47] (fun er i wr => ∃ k : Nat, k ≤ 1 ∧ i = .int .i64 (k : Int) ∧ er = .nilIface ∧ Aside0 (Below w.heap.size w wr)) (fun _ i _ => 1 - (intOf i).toNat)
  case atStart => exact ⟨0, by omega, rfl, rfl, ⟨Below.refl _ _⟩⟩
  case round =>
    obtain ⟨k, hk, rfl, rfl, hB⟩ := hrel
    by_cases hk2 : k < 1
    · obtain ⟨ad, e1, hcell⟩ := Kd.at_string hC.out (k : Int) (Int.natCast_nonneg k) (by omega)
      have hr : rdOf ByteArray.empty [x] (k : Int) = x := by rw [show k = 0 by omega]; rfl
      rw [hr, Int.toNat_natCast] at hcell
      cases e1
      replace hcell := (hB.out.cell (World.block_lt_of_cell? w _ hcell)).trans hcell
      clear hr
      go_wp2_with fail
      refine (hp.out _).mono ?_
      rintro e w1 ⟨rfl, hb⟩
      replace hB := Aside0.mk (below_then hB.out hB.out.size hb)
      clear hb hcell
      go_wp2_with fail
      go_roundw
      case rel => exact ⟨k + 1, by omega, by go_num, rfl, hB⟩
      case measure => simp [intOf]; omega
    · have hk3 : k = 1 := by omega
      subst hk3
      go_wp2_with fail
      go_ret2
      exact ⟨wr.heap.size, rfl, hB.out.size, heap_alloc_new wr _, below_alloc hB.out _⟩
set_option maxHeartbeats 2000000 in
set_option maxRecDepth 100000 in
theorem new_lt (key : ByteArray) (A : Option Addr) (c : Nat) (x : ByteArray) (hx : x.size ≤ 140737488351232) (v : Int) (hv : whole x = some v) (w : World) (hC : Kd.string.C w A 1 [x]) :
    Calls Tryd.prog 23 #[.string key, .string o_lt, .slice A 1 c, .slice none 0 0] w fun e w' => ∃ g, e = .returned (.tuple #[.pointer (some ⟨g, 0, none⟩), .nilIface]) ∧ w.heap.size ≤ g ∧ Rq w' g key o_lt A 1 c ∧ Below w.heap.size w w' := by
  have hp := Aside0.mk (fun W => parse_ok x hx v hv W)
  replace hC := Aside0.mk hC
  replace hv := Aside0.mk hv
  go_enter Tryd.func23, Tryd.ntmps23
  go_wp2_with fail
  go_loopw [10, 47] (fun er i wr => ∃ k : Nat, k ≤ 1 ∧ i = .int .i64 (k : Int) ∧ er = .nilIface ∧ Aside0 (Below w.heap.size w wr)) (fun _ i _ => 1 - (intOf i).toNat)
  case atStart => exact ⟨0, by omega, rfl, rfl, ⟨Below.refl _ _⟩⟩
  case round =>
    obtain ⟨k, hk, rfl, rfl, hB⟩ := hrel
    by_cases hk2 : k < 1
    · obtain ⟨ad, e1, hcell⟩ := Kd.at_string hC.out (k : Int) (Int.natCast_nonneg k) (by omega)
      have hr : rdOf ByteArray.empty [x] (k : Int) = x := by rw [show k = 0 by omega]; rfl
      rw [hr, Int.toNat_natCast] at hcell
      cases e1
      replace hcell := (hB.out.cell (World.block_lt_of_cell? w _ hcell)).trans hcell
      clear hr
      go_wp2_with fail
      refine (hp.out _).mono ?_
      rintro e w1 ⟨rfl, hb⟩
      replace hB := Aside0.mk (below_then hB.out hB.out.size hb)
      clear hb hcell
      go_wp2_with fail
      go_roundw
      case rel => exact ⟨k + 1, by omega, by go_num, rfl, hB⟩
      case measure => simp [intOf]; omega
    · have hk3 : k = 1 := by omega
      subst hk3
      go_wp2_with fail
      go_ret2
      exact ⟨wr.heap.size, rfl, hB.out.size, heap_alloc_new wr _, below_alloc hB.out _⟩
end Go.Proofs.YtjlmhfciidfjiaaDoor.NdP
