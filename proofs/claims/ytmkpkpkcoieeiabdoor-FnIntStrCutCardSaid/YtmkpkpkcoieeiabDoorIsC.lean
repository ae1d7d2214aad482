/- The law of a value's bytes that are cut, walked. -/
import Derived.Test.YtmkpkpkcoieeiabDoorIsL
set_option linter.unusedSimpArgs false
set_option linter.unusedVariables false
namespace Go.Proofs.YtmkpkpkcoieeiabDoor.IsC
open Go.RowKit Go.Proofs.YtmkpkpkcoieeiabDoorW.PrintWords Go.Proofs.YtmkpkpkcoieeiabDoorW.PrintLast Go.Proofs.YtmkpkpkcoieeiabDoor.IsM Go.Proofs.YtmkpkpkcoieeiabDoor.IsB Go.Proofs.YtmkpkpkcoieeiabDoor.IsP Go.Proofs.YtmkpkpkcoieeiabDoor.IsU Go.Proofs.YtmkpkpkcoieeiabDoor.XIs Go.Proofs.YtmkpkpkcoieeiabDoor.IsE Go.Proofs.YtmkpkpkcoieeiabDoor.IsF Go.Proofs.YtmkpkpkcoieeiabDoor.IsG Go.Proofs.YtmkpkpkcoieeiabDoor.IsW Go.Proofs.YtmkpkpkcoieeiabDoor.IsL
theorem back {t i : Int} {S : ByteArray} (h : VIn t i S) : IntKind.i64.wrap ((nx t : Nat) : Int) = t ∧ IntKind.i32.wrap ((nx i : Nat) : Int) = i := by
  obtain ⟨n1, n2, n3, n4, n5⟩ := nums_of h
  obtain ⟨h1, h2, h3, h4, h5⟩ := h
  exact ⟨by rw [← n1, IntKind.wrap_u64, IntKind.wrap_i64]; omega, by rw [← n2, IntKind.wrap_u64, IntKind.wrap_i32]; omega⟩
/-- What is read of K of the bytes: a value, and whether it is one. -/
def Got (t i : Int) (S : ByteArray) (K p q m : Nat) (T I : Int) (Z : ByteArray) (ok : Bool) : Prop :=
  (K = 0 ∧ T = 0 ∧ I = 0 ∧ Z = E0 ∧ ok = true) ∨ (K = p ∧ K ≠ 0 ∧ T = t ∧ I = 0 ∧ Z = E0 ∧ ok = true) ∨ (K = q ∧ K ≠ 0 ∧ K ≠ p ∧ T = t ∧ I = i ∧ Z = E0 ∧ ok = true) ∨ (K = m ∧ K ≠ 0 ∧ K ≠ p ∧ K ≠ q ∧ T = t ∧ I = i ∧ Z = S ∧ ok = true) ∨ (K ≠ 0 ∧ K ≠ p ∧ K ≠ q ∧ K ≠ m ∧ T = 0 ∧ I = 0 ∧ Z = E0 ∧ ok = false)
theorem got_of {t i : Int} {S : ByteArray} (h : VIn t i S) (K : Nat) (hK : K ≤ (WL (nx t) (nx i) S).length) {e : Ending} (hu : UEnd (IsD.dec ((WL (nx t) (nx i) S).take K)) e) :
    ∃ T I Z ok, e = .returned (.tuple #[.agg #[.int .i64 T, .int .i32 I, .string Z], .bool ok]) ∧ Got t i S K (p1 (nx t)) (p2 (nx t) (nx i)) (WL (nx t) (nx i) S).length T I Z ok := by
  obtain ⟨b1, b2⟩ := back h
  have hl : (S.data.toList.map (·.toNat)).length = S.size := by simp
  rw [WL_length] at *
  rw [IsD.dec_eq _ _ _ _ hK] at hu
  unfold Res at hu
  rw [hl, b1, b2] at hu
  have a1 := vl_pos (nx t)
  have a2 := vl_pos (nx i)
  have a3 := vl_pos S.size
  split at hu
  · exact ⟨_, _, _, _, hu, .inl ⟨by omega, rfl, rfl, rfl, rfl⟩⟩
  split at hu
  · exact ⟨_, _, _, _, hu, .inr (.inl ⟨by omega, by omega, rfl, rfl, rfl, rfl⟩)⟩
  split at hu
  · exact ⟨_, _, _, _, hu, .inr (.inr (.inl ⟨by omega, by omega, by omega, rfl, rfl, rfl, rfl⟩))⟩
  split at hu
  · exact ⟨_, _, _, _, hu, .inr (.inr (.inr (.inl ⟨by omega, by omega, by omega, by omega, rfl, rfl, rfl, rfl⟩)))⟩
  · exact ⟨_, _, _, _, hu, .inr (.inr (.inr (.inr ⟨by omega, by omega, by omega, by omega, rfl, rfl, rfl, rfl⟩)))⟩
set_option maxHeartbeats 4000000 in
set_option maxRecDepth 100000 in
theorem cut_in (t i : Int) (S : ByteArray) (cut : Nat) (w : World) (h : VIn t i S) (hc : cut ≤ 255) (hV : VE w) :
    Calls Tryd.prog 7 #[.agg #[.int .i64 t, .int .i32 i, .string S], .int .u8 (cut : Int)] w fun e w' => e = .returned (.bool true) ∧ Below w.heap.size w w' := by
  have hz := Aside0.mk (fun W => laws_zzFits5.calls t i S true W (by unfold laws_zzFits5.f; rw [if_neg (by have := h.2.2.2.2; omega)]))
  have n1 := (nums_of h).1
  have hN := Aside0.mk (nums_of h)
  have hle := le_of (nums_of h)
  have hS5 := h.2.2.2.2
  replace h := Aside0.mk h
  replace hV := Aside0.mk hV
  have hx0 : Bx (w.alloc (.cells #[.int .i64 t, .int .i32 i, .string S] 34)) w.heap.size t i S := heap_alloc_new w _
  replace hx0 := Aside0.mk hx0
  go_enter Tryd.func7, Tryd.ntmps7
  go_wp2_with fail
  refine (hz.out _).mono ?_
  rintro e w1 ⟨rfl, hB1⟩
  have hx1 := Aside0.mk (hx0.out.below hB1)
  have hB1 := Aside0.mk (below_then (below_alloc (Below.refl w.heap.size w) (.cells #[.int .i64 t, .int .i32 i, .string S] 34)) (by rw [World.size_alloc]; omega) hB1)
  obtain ⟨c0, c1, c2⟩ := hx1.out.c
  go_wp2_with fail
  refine (implMarshal t i S _ h.out).mono ?_
  rintro e w2 ⟨b, n, rfl, hF, hB2⟩
  have hx2 := Aside0.mk (hx1.out.below hB2)
  have hB2 := Aside0.mk (below_then hB1.out hB1.out.size hB2)
  clear c0 c1 c2
  obtain ⟨A', c', e1, hc', hC'⟩ := Kd.R_reads hF.R
  have hn : n = (WL (nx t) (nx i) S).length := hF.1.symm
  injection e1 with e1 e2 e3
  subst e1
  obtain ⟨K, hK⟩ : ∃ K : Nat, K = cut % (n + 1) := ⟨_, rfl⟩
  have hKn : K ≤ n := by have := Nat.mod_lt cut (show 0 < n + 1 by omega); omega
  have hnb : n ≤ 4294967296 := by rw [hn, WL_length]; exact hle
  have hm2 : (cut : Int) % ((n : Int) + 1) = (K : Int) := by rw [hK, Int.natCast_emod]; rfl
  have hm1 : Int.tmod (cut : Int) ((n : Int) + 1) = (K : Int) := by rw [Int.tmod_eq_emod_of_nonneg (by omega)]; exact hm2
  have hKl : ((WL (nx t) (nx i) S).take K).length = K := by rw [List.length_take, ← hn]; omega
  have hu : Calls Tryd.prog 16 #[.slice (some ⟨b, 0, none⟩) K n] w2 fun e w' => UEnd (IsD.dec ((WL (nx t) (nx i) S).take K)) e ∧ Below w2.heap.size w2 w' := by
    have hr : (Kd.int .u8).C w2 (some ⟨b, 0, none⟩) ((WL (nx t) (nx i) S).take K).length ((WL (nx t) (nx i) S).take K) := by
      rw [hKl]
      exact Kd.C_of_reads (d := (0 : Int)) (h1 := fun _ => rfl) (ReadsOf.take_ (d := (0 : Int)) (Kd.reads_of_C (h1 := fun _ => rfl) (by rw [← e2] at hC'; exact hC')) K hKn)
    have := unm (some ⟨b, 0, none⟩) n ((WL (nx t) (nx i) S).take K) w2 hr (by rw [hKl]; exact hKn) (VE.below hV.out hB2.out) ⟨t, i, S, h.out, by rw [hKl]⟩
    rwa [hKl] at this
  replace hu := Aside0.mk hu
  replace hn := Aside0.mk hn
  replace hK := Aside0.mk hK
  clear hC' hc' e2 e3 hF hKl
  have hcb : 0 ≤ (cut : Int) := by omega
  go_wp2_with fail
  refine hu.out.mono ?_
  rintro e w3 ⟨hU, hB3⟩
  obtain ⟨T, I, Z, ok, rfl, hG⟩ := got_of h.out K (by rw [← hn.out]; exact hKn) hU
  rw [← hn.out] at hG
  have hx3 := Aside0.mk (hx2.out.below hB3)
  have hB3 := Aside0.mk (below_then hB2.out hB2.out.size hB3)
  clear hm1 hm2 hu
  obtain ⟨c0, c1, c2⟩ := hx3.out.c
  obtain ⟨wc, hwc⟩ : ∃ wc, wc = w3.alloc (.cells #[.int .i64 T, .int .i32 I, .string Z] 34) := ⟨_, rfl⟩
  have hBc : Below w3.heap.size w3 wc := by rw [hwc]; exact below_alloc (Below.refl _ _) _
  have hyc := Aside0.mk (show Bx wc w3.heap.size T I Z by rw [hwc]; exact heap_alloc_new w3 _)
  have hxc := Aside0.mk (hx3.out.below hBc)
  have cA : (w3.alloc (.cells #[.int .i64 T, .int .i32 I, .string Z] 34)).cell? ⟨w.heap.size, 0, none⟩ = some (.int .i64 t) := by rw [← hwc]; exact hxc.out.c.1
  have hBc := Aside0.mk (below_then hB3.out hB3.out.size hBc)
  replace hwc := Aside0.mk hwc
  replace hG := Aside0.mk hG
  go_wp2_with fail
  rw [← hwc.out]
  refine (varint (nx t) hN.out.2.2.1 _).mono ?_
  rintro e w4 ⟨A1, d1, rfl, _, hB4⟩
  have hy4 := Aside0.mk (hyc.out.below hB4)
  have hx4 := Aside0.mk (hxc.out.below hB4)
  have hB4 := Aside0.mk (below_then hBc.out hBc.out.size hB4)
  clear cA c0 c1 c2
  obtain ⟨pp, hpp⟩ : ∃ p : Nat, p = p1 (nx t) := ⟨_, rfl⟩
  obtain ⟨q, hq⟩ : ∃ q : Nat, q = p2 (nx t) (nx i) := ⟨_, rfl⟩
  have e1 : 1 + ((vl (nx t) : Nat) : Int) = (pp : Int) := by rw [hpp]; unfold p1; omega
  have e2 := Aside0.mk (show n = q + 1 + vl S.size + S.size by rw [hn.out, WL_length, hq]; unfold p3; omega)
  have v10 := vl_10 (hN.out.2.2.1)
  have vz := vl_10 (lt_u _ hS5)
  rw [← hpp, ← hq] at hG
  replace hpp := Aside0.mk hpp
  replace hq := Aside0.mk hq
  go_upto_region 9 with fail
  have hS : ∀ w', Below w4.heap.size w4 w' → (fun w' => w'.cell? ⟨w.heap.size, 2, none⟩ = some (.string S)) w' := fun w' hb => (hx4.out.below hb).c.2.2
  have hX := Aside0.mk (Below.refl w4.heap.size w4)
  have hM : ∀ W, Below w4.heap.size w4 W → Calls Tryd.prog 19 #[.int .u64 (S.size : Int)] W (fun e w' => ∃ A c, e = .returned (.slice A (vl S.size) c) ∧ Below w4.heap.size w4 w') := by
    intro W hb
    refine (varint S.size (lt_u _ hS5) W).mono ?_
    rintro e w' ⟨A, c, rfl, _, hb2⟩
    exact ⟨A, c, rfl, below_then hb hb.size hb2⟩
  replace hS := Aside0.mk hS
  replace hM := Aside0.mk hM
  have e3 : IntKind.i64.wrap ((n : Int) - (S.size : Int)) = ((q + 1 + vl S.size : Nat) : Int) := by have := e2.out; rw [IntKind.wrap_i64]; omega
  have e4 : IntKind.i64.wrap (((q + 1 + vl S.size : Nat) : Int) - ((vl S.size : Nat) : Int)) = ((q + 1 : Nat) : Int) := by have := e2.out; rw [IntKind.wrap_i64]; omega
  have e5 : IntKind.i64.wrap (((q + 1 : Nat) : Int) - 1) = (q : Int) := by have := e2.out; rw [IntKind.wrap_i64]; omega
  obtain ⟨j1, hj1⟩ : ∃ j : Int, j = ((q + 1 + vl S.size : Nat) : Int) := ⟨_, rfl⟩
  obtain ⟨j2, hj2⟩ : ∃ j : Int, j = ((q + 1 : Nat) : Int) := ⟨_, rfl⟩
  rw [← hj1] at e3 e4
  rw [← hj2] at e4 e5
  clear hj1 hj2
  have uz : IntKind.u64.wrap (S.size : Int) = (S.size : Int) := by rw [IntKind.wrap_u64]; omega
  go_region_held3 (fun w' => w'.cell? ⟨w.heap.size, 2, none⟩ = some (.string S)) (first | exact hS.out _ hX.out | exact hS.out _ (pw_below_drewN hX.out 1)) (first
    | (go_at_call 19; refine (hM.out _ ?_).mono ?_; (first | exact hX.out | exact pw_below_drewN hX.out 1); rintro e w5 ⟨A5, d5, rfl, hX⟩; replace hX := Aside0.mk hX))
  obtain ⟨y0, y1, y2⟩ := (hy4.out.below hX.out).c
  obtain ⟨x0, x1, x2⟩ := (hx4.out.below hX.out).c
  have hB5 := Aside0.mk (below_then hB4.out hB4.out.size hX.out)
  clear uz e1 e2 e3 e4 e5
  rcases hG.out with ⟨k0, rfl, rfl, rfl, rfl⟩ | ⟨k0, k1, rfl, rfl, rfl, rfl⟩ | ⟨k0, k1, k2, rfl, rfl, rfl, rfl⟩ | ⟨k0, k1, k2, k3, rfl, rfl, rfl, rfl⟩ | ⟨k0, k1, k2, k3, rfl, rfl, rfl, rfl⟩
  · subst k0
    go_wp2_with fail
    go_ret
    exact ⟨rfl, hB5.out⟩
  · subst k0
    go_wp2_with fail
    go_ret
    exact ⟨rfl, hB5.out⟩
  · subst k0
    go_wp2_with fail
    go_ret
    exact ⟨rfl, hB5.out⟩
  · subst k0
    go_wp2_with fail
    go_ret
    exact ⟨rfl, hB5.out⟩
  · go_wp2_with fail
    go_ret
    exact ⟨rfl, hB5.out⟩
end Go.Proofs.YtmkpkpkcoieeiabDoor.IsC
