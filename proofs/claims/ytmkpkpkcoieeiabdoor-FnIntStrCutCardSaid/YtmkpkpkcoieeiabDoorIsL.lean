/- The law of a value's bytes walked. -/
import Derived.Test.YtmkpkpkcoieeiabDoorIsG
import Derived.Test.YtmkpkpkcoieeiabDoorVarsI
import Derived.Deep.RegionHeld3
import Derived.Deep.RegionWith
import Derived.Deep.QuietTactic
import Derived.BigQuiet
import Derived.Outline
set_option linter.unusedSimpArgs false
set_option linter.unusedVariables false
namespace Go.Proofs.YtmkpkpkcoieeiabDoor.IsL
open Go.RowKit Go.Proofs.YtmkpkpkcoieeiabDoorW.PrintWords Go.Proofs.YtmkpkpkcoieeiabDoorW.PrintLast Go.Proofs.YtmkpkpkcoieeiabDoor.IsM Go.Proofs.YtmkpkpkcoieeiabDoor.IsB Go.Proofs.YtmkpkpkcoieeiabDoor.IsP Go.Proofs.YtmkpkpkcoieeiabDoor.IsU Go.Proofs.YtmkpkpkcoieeiabDoor.XIs Go.Proofs.YtmkpkpkcoieeiabDoor.IsE Go.Proofs.YtmkpkpkcoieeiabDoor.IsF Go.Proofs.YtmkpkpkcoieeiabDoor.IsG Go.Proofs.YtmkpkpkcoieeiabDoor.IsW
theorem dec_all (t i : Int) (S : ByteArray) (h : VIn t i S) : IsD.dec (WL (nx t) (nx i) S) = some (t, i, S) := by
  have e := IsD.dec_eq (nx t) (nx i) S (p3 (nx t) (nx i) S.size + S.size) (Nat.le_refl _)
  rw [List.take_of_length_le (by rw [WL_length]; exact Nat.le_refl _)] at e
  rw [e]
  obtain ⟨n1, n2, n3, n4, n5⟩ := nums_of h
  obtain ⟨h1, h2, h3, h4, h5⟩ := h
  have a1 := vl_pos (nx t)
  have a2 := vl_pos (nx i)
  have a3 := vl_pos S.size
  have hl : (S.data.toList.map (·.toNat)).length = S.size := by simp
  unfold Res
  rw [hl, if_neg (by unfold p3 p2 p1; omega), if_neg (by unfold p3 p2 p1; omega), if_neg (by unfold p3 p2 p1; omega), if_pos rfl]
  have e1 : IntKind.i64.wrap ((nx t : Nat) : Int) = t := by rw [← n1, IntKind.wrap_u64, IntKind.wrap_i64]; omega
  have e2 : IntKind.i32.wrap ((nx i : Nat) : Int) = i := by rw [← n2, IntKind.wrap_u64, IntKind.wrap_i32]; omega
  rw [e1, e2]
theorem pre_all (t i : Int) (S : ByteArray) (h : VIn t i S) : Pre (WL (nx t) (nx i) S) := ⟨t, i, S, h, by rw [List.take_of_length_le (Nat.le_refl _)]⟩
/-- A value in its block. -/
def Bx (w : World) (b : Nat) (t i : Int) (S : ByteArray) : Prop := w.heap[b]? = some (.cells #[.int .i64 t, .int .i32 i, .string S] 34 (0, 0))
theorem Bx.c {w : World} {b : Nat} {t i : Int} {S : ByteArray} (h : Bx w b t i S) : w.cell? ⟨b, 0, none⟩ = some (.int .i64 t) ∧ w.cell? ⟨b, 1, none⟩ = some (.int .i32 i) ∧ w.cell? ⟨b, 2, none⟩ = some (.string S) :=
  ⟨(blk_cell h 0).trans rfl, (blk_cell h 1).trans rfl, (blk_cell h 2).trans rfl⟩
theorem Bx.below {w w1 : World} {b : Nat} {t i : Int} {S : ByteArray} (h : Bx w b t i S) (hb : Below w.heap.size w w1) : Bx w1 b t i S := (hb.block b (blk_lt h)).trans h
set_option maxHeartbeats 4000000 in
set_option maxRecDepth 100000 in
theorem bytes_in (t i : Int) (S : ByteArray) (w : World) (h : VIn t i S) (hV : VE w) :
    Calls Tryd.prog 6 #[.agg #[.int .i64 t, .int .i32 i, .string S]] w fun e w' => e = .returned (.bool true) ∧ Below w.heap.size w w' := by
  have hz := Aside0.mk (fun W => laws_zzFits5.calls t i S true W (by unfold laws_zzFits5.f; rw [if_neg (by have := h.2.2.2.2; omega)]))
  replace h := Aside0.mk h
  replace hV := Aside0.mk hV
  have hx0 : Bx (w.alloc (.cells #[.int .i64 t, .int .i32 i, .string S] 34)) w.heap.size t i S := heap_alloc_new w _
  replace hx0 := Aside0.mk hx0
  go_enter Tryd.func6, Tryd.ntmps6
  go_wp2_with fail
  refine (hz.out _).mono ?_
  rintro e w1 ⟨rfl, hB1⟩
  have hx1 := Aside0.mk (hx0.out.below hB1)
  have hB1 := Aside0.mk (below_then (below_alloc (Below.refl w.heap.size w) (.cells #[.int .i64 t, .int .i32 i, .string S] 34)) (by rw [World.size_alloc]; omega) hB1)
  obtain ⟨c0, c1, c2⟩ := hx1.out.c
  go_wp2_with fail
  refine (implMarshal t i S _ h.out).mono ?_
  rintro e w2 ⟨b, n, rfl, hF, hB2⟩
  have hx2 := Aside0.mk (hx1.out.below hB2)
  have hB2 := Aside0.mk (below_then hB1.out hB1.out.size hB2)
  clear c0 c1 c2
  obtain ⟨A', c', e1, hc', hC'⟩ := Kd.R_reads hF.R
  obtain rfl : n = (WL (nx t) (nx i) S).length := hF.1.symm
  injection e1 with e1 e2 e3
  subst e1
  have hu := Aside0.mk (unm (some ⟨b, 0, none⟩) (WL (nx t) (nx i) S).length (WL (nx t) (nx i) S) w2 hC' (Nat.le_refl _) (VE.below hV.out hB2.out) (pre_all t i S h.out))
  have hF := Aside0.mk hF
  obtain ⟨l, hl⟩ : ∃ l, l = WL (nx t) (nx i) S := ⟨_, rfl⟩
  rw [← hl] at hF hu
  rw [← hl]
  replace hl := Aside0.mk hl
  clear hC' hc' e2 e3
  go_wp2_with fail
  refine hu.out.mono ?_
  rintro e w3 ⟨hU, hB3⟩
  rw [hl.out, dec_all t i S h.out] at hU
  obtain rfl : e = .returned (.tuple #[.agg #[.int .i64 t, .int .i32 i, .string S], .bool true]) := hU
  have hx3 := Aside0.mk (hx2.out.below hB3)
  have hcv := Aside0.mk (fun W hW => own_string (P := Tryd.prog) (src := 27) (dst := 9) Tryd.underlying27 Tryd.underlying5 Tryd.underlying9 (pw_own_below hF.out.2 (below_then hB3 hB3.size (show Below w3.heap.size w3 W from hW))))
  have hB3 := Aside0.mk (below_then hB2.out hB2.out.size hB3)
  go_upto_region 5 with fail
  obtain ⟨Z, hZ⟩ : ∃ Z, Z = strOfNums l := ⟨_, rfl⟩
  obtain ⟨wc, hwc⟩ : ∃ wc, wc = w3.alloc (.cells #[.int .i64 t, .int .i32 i, .string S] 34) := ⟨_, rfl⟩
  rw [← hwc]
  have hy : Bx wc w3.heap.size t i S := by rw [hwc]; exact heap_alloc_new w3 _
  have hBc : Below w3.heap.size w3 wc := by rw [hwc]; exact below_alloc (Below.refl _ _) _
  have hx : Bx wc w.heap.size t i S := hx3.out.below hBc
  have hS : ∀ w', Below wc.heap.size wc w' → (fun w' => w'.cell? ⟨w3.heap.size, 0, none⟩ = some (.int .i64 t) ∧ w'.cell? ⟨w3.heap.size, 1, none⟩ = some (.int .i32 i) ∧ w'.cell? ⟨w3.heap.size, 2, none⟩ = some (.string S) ∧ w'.cell? ⟨w.heap.size, 0, none⟩ = some (.int .i64 t) ∧ w'.cell? ⟨w.heap.size, 1, none⟩ = some (.int .i32 i) ∧ w'.cell? ⟨w.heap.size, 2, none⟩ = some (.string S) ∧ (convert 27 9 (.slice (some ⟨b, 0, none⟩) l.length l.length)).run Tryd.prog w' = .ok (.string Z) w') w' := by
    intro w' hb
    obtain ⟨y0, y1, y2⟩ := (hy.below hb).c
    obtain ⟨x0, x1, x2⟩ := (hx.below hb).c
    refine ⟨y0, y1, y2, x0, x1, x2, ?_⟩
    have := hcv.out w' (below_then hBc hBc.size hb)
    rw [← hZ] at this
    exact this
  have hX := Aside0.mk (Below.refl wc.heap.size wc)
  have hM : ∀ W, Below wc.heap.size wc W → Calls Tryd.prog 17 #[.agg #[.int .i64 t, .int .i32 i, .string S]] W (fun e w' => e = .returned (.int .i64 (l.length : Int)) ∧ Below wc.heap.size wc w') := by
    intro W hb
    refine (implSize t i S W h.out).mono ?_
    rintro e w' ⟨rfl, hb2⟩
    exact ⟨by rw [hl.out, WL_length], below_then hb hb.size hb2⟩
  have hW : ∀ W, Below wc.heap.size wc W → Calls Tryd.prog 18 #[.agg #[.int .i64 t, .int .i32 i, .string S]] W (fun e w' => ∃ v, e = .returned v ∧ Below wc.heap.size wc w' ∧ ∀ W', Below w'.heap.size w' W' → (convert 27 9 v).run Tryd.prog W' = .ok (.string Z) W') := by
    intro W hb
    refine (wire_calls t i S W h.out).mono ?_
    rintro e w' ⟨v, rfl, hO, hb2⟩
    refine ⟨v, rfl, below_then hb hb.size hb2, fun W' hW' => ?_⟩
    have := own_string (P := Tryd.prog) (src := 27) (dst := 9) Tryd.underlying27 Tryd.underlying5 Tryd.underlying9 (Own.below hO hW')
    rw [← hl.out, ← hZ] at this
    exact this
  have hB4 := Aside0.mk (below_then hB3.out hB3.out.size hBc)
  have hF9 : ∀ w', Below wc.heap.size wc w' → (fun w' => w'.cell? ⟨w3.heap.size, 0, none⟩ = some (.int .i64 t) ∧ w'.cell? ⟨w3.heap.size, 1, none⟩ = some (.int .i32 i) ∧ w'.cell? ⟨w3.heap.size, 2, none⟩ = some (.string S) ∧ w'.cell? ⟨w.heap.size, 0, none⟩ = some (.int .i64 t) ∧ w'.cell? ⟨w.heap.size, 1, none⟩ = some (.int .i32 i) ∧ w'.cell? ⟨w.heap.size, 2, none⟩ = some (.string S) ∧ (convert 27 9 (.slice (some ⟨b, 0, none⟩) l.length l.length)).run Tryd.prog w' = .ok (.string Z) w') w' ∧ (∀ n, (convert 27 9 (.slice (some ⟨b, 0, none⟩) l.length l.length)).run Tryd.prog (w'.drewN n) = .ok (.string Z) (w'.drewN n)) ∧ (convert 27 9 (.slice (some ⟨b, 0, none⟩) l.length l.length)).run Tryd.prog w'.drew = .ok (.string Z) w'.drew :=
    fun w' hb => ⟨hS w' hb, fun n => (hS _ (pw_below_drewN hb n)).2.2.2.2.2.2, (hS _ (below_drew hb)).2.2.2.2.2.2⟩
  obtain ⟨⟨y0, y1, y2, x0, x1, x2, v0⟩, v1, v2⟩ := hF9 wc hX.out
  replace hF9 := Aside0.mk hF9
  replace hM := Aside0.mk hM
  replace hW := Aside0.mk hW
  clear hwc hy hBc hx hZ hS
  go_region_with (first
    | (go_at_call 17; refine (hM.out _ ?_).mono ?_; (first | exact hX.out | exact below_drew hX.out | exact pw_below_drewN hX.out _); rintro e w6 ⟨rfl, hX⟩; clear y0 y1 y2 x0 x1 x2 v0 v1 v2; obtain ⟨⟨y0, y1, y2, x0, x1, x2, v0⟩, v1, v2⟩ := hF9.out w6 hX; replace hX := Aside0.mk hX)
    | (go_at_call 18; refine (hW.out _ ?_).mono ?_; (first | exact hX.out | exact below_drew hX.out | exact pw_below_drewN hX.out _); rintro e w7 ⟨v, rfl, hX, hcv7⟩; clear y0 y1 y2 x0 x1 x2 v0 v1 v2; obtain ⟨⟨y0, y1, y2, x0, x1, x2, v0⟩, v1, v2⟩ := hF9.out w7 hX; replace hX := Aside0.mk hX; have hcvA := hcv7 w7 (Below.refl _ _); have hcvB := fun n => hcv7 (w7.drewN n) (pw_below_drewN (Below.refl _ _) n); have hcvC := hcv7 w7.drew (below_drew (Below.refl _ _)); replace hcv7 := Aside0.mk hcv7))
  all_goals (go_wp2_with fail; go_ret; refine ⟨rfl, below_then hB4.out hB4.out.size ?_⟩; (first | exact hX.out | exact below_drew hX.out | exact pw_below_drewN hX.out _))
end Go.Proofs.YtmkpkpkcoieeiabDoor.IsL
