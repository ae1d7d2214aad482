/- A text of this session: the functions of the law FnVersionMinors, by a program that calls the kit's print and lays this session's own contracts of single functions beside. -/
import Derived.Test.YtmfgkidppchobaaDoorXFnVersionMinorsx0
namespace Go.Proofs.YtmfgkidppchobaaDoor.XFnVersionMinors
open Go.Proofs.YtmfgkidppchobaaDoor.Ver5 Go.RowKit Go.Proofs.YtmfgkidppchobaaDoorW.PrintWords Go.Proofs.YtmfgkidppchobaaDoorW.PrintLast Go.Proofs.YtmfgkidppchobaaDoorW.PrintMore
attribute [local go_sem] max2_int min2_int max_two min_two max_three min_three max_four min_four
set_option linter.unusedVariables false
set_option linter.unusedSimpArgs false
def toS (d : Ver6.VD) : S46 := ⟨d.ok, d.l, d.pre, d.bld, d.txt, d.a, d.b, d.c⟩
theorem vd_M {w : World} {base : Nat} {v : Value} {d : Ver6.VD} (h : Ver6.IsVD w base v d) : ∃ A c, v = .agg #[.bool d.ok, .slice A d.l.length c, .string d.pre, .string d.bld, .string d.txt, .int .u64 d.a, .int .u64 d.b, .int .u64 d.c] ∧
  k46.M w base (fun k => base < k) (toS d) [.bool d.ok, .slice A d.l.length c, .string d.pre, .string d.bld, .string d.txt, .int .u64 d.a, .int .u64 d.b, .int .u64 d.c] := by
 obtain ⟨A, c, rfl, hR⟩ := h
 exact ⟨A, c, rfl, k46_mkM w base _ (toS d) hR⟩
theorem one_rep {w : World} {base : Nat} {okp : Nat → Prop} {x : S46} {inner : List Value} (h : k46.M w base okp x inner) : ∀ j y, [x][j]? = some y → k46.M w base (fun k => j = 0 ∧ okp k) y ((inner.drop (j * k46.sz)).take k46.sz) := by
 intro j y hj
 have hl : inner.length = k46.sz := k46.K_len (k46.K_of_M h)
 rcases j with _ | j
 ·obtain rfl : x = y := by simpa using hj
  rw [Nat.zero_mul, List.drop_zero, ← hl, List.take_length]
  exact k46.M_mono (fun k hk => ⟨rfl, hk⟩) h
 ·simp at hj
theorem infoV : (Tryd.prog.info? 46).map (fun i => (i.zero, i.size, i.bytes)) = some (some (Value.agg #[.bool false, .slice none 0 0, .string ⟨#[]⟩, .string ⟨#[]⟩, .string ⟨#[]⟩, .int .u64 0, .int .u64 0, .int .u64 0]), 8, 104) := by kernel_rfl
def nth (m n : Int) (k : Nat) : Int := if k % 2 = 0 then m else m + n
def outs (M m n : Int) : List S46 := (List.range 5).map fun k => toS (Ver6.vdOf [M, nth m n k] ⟨#[]⟩ ⟨#[]⟩)
theorem outs_take (M m n : Int) (k : Nat) (h : k < 4) : (outs M m n).take (k + 2) = (outs M m n).take (k + 1) ++ [toS (Ver6.vdOf [M, nth m n (k + 1)] ⟨#[]⟩ ⟨#[]⟩)] := by
 have : k = 0 ∨ k = 1 ∨ k = 2 ∨ k = 3 := by omega
 rcases this with rfl | rfl | rfl | rfl <;> rfl
theorem outs_len (M m n : Int) (k : Nat) (h : k < 5) : ((outs M m n).take (k + 1)).length = k + 1 := by
 have : k = 0 ∨ k = 1 ∨ k = 2 ∨ k = 3 ∨ k = 4 := by omega
 rcases this with rfl | rfl | rfl | rfl | rfl <;> rfl
def stepsL (n : Int) : List S42 := [⟨5, n, 0, ⟨#[]⟩⟩, ⟨6, n, 0, ⟨#[]⟩⟩, ⟨7, 0, n, ⟨#[]⟩⟩, ⟨7, 0, -n, ⟨#[]⟩⟩]
set_option maxHeartbeats 4000000 in
set_option maxRecDepth 100000 in
theorem steps_calls (A2 : Option Addr) (c2 : Nat) (M m n : Int) (s : ByteArray) (k0 : Nat) (w : World) (hp : Ver6.parsedF k0 1 s = some (some (false, [M, m], ⟨#[]⟩, ⟨#[]⟩))) (hr : Kd.C k42 w A2 4 (stepsL n)) (hM : 0 ≤ M ∧ M < 18446744073709551616) (h0 : 0 ≤ m) (h1 : 0 ≤ n) (h2 : m + n ≤ 9223372036854775807) (hV : VT.V w) :
  Calls Tryd.prog 14 #[.int .i64 1, .string s, .slice A2 4 c2] w fun e w' => ∃ v, e = .returned v ∧ Kd.S k46 46 w' w.heap.size (fun _ => True) v (outs M m n) ∧ Below w.heap.size w w' := by
 replace hr := Aside0.mk hr
 replace hV := Aside0.mk hV
 have hu : ∀ k, Ver3.U64 [M, nth m n k] := fun k x hx => by
  rcases List.mem_cons.1 hx with rfl | hx
  ·exact hM
  ·rw [List.mem_singleton.1 hx]; unfold nth; split <;> omega
 replace hu := Aside0.mk hu
 have hpc := Aside0.mk (Ver6.parsed_calls k0 1 s _ w hp hV.out)
 clear hp
 have hMx := Aside0.mk hM
 clear hM
 go_enter Tryd.func14, Tryd.ntmps14
 go_wp2_with fail
 refine hpc.out.mono ?_
 rintro e w1 hpost
 obtain ⟨g, rfl, hI, _, hB⟩ := hpost
 replace hI := Aside0.mk hI
 have hB1 := Aside0.mk hB
 clear hB hpc
 unfold Ver1.Ptr
 go_wp2_with fail
 refine (Ver6.ver_ok g [M, m] false ⟨#[]⟩ ⟨#[]⟩ _ hI.out (hu.out 0) (by simp) (by simp) (by decide) (by decide) (hV.out.below hB1.out)).mono ?_
 rintro e w2 ⟨v, rfl, hD, hB⟩
 obtain ⟨d0, hd0⟩ : ∃ d0, d0 = Ver6.vdOf [M, m] ⟨#[]⟩ ⟨#[]⟩ := ⟨_, rfl⟩
 rw [← hd0] at hD
 replace hd0 := Aside0.mk hd0
 obtain ⟨A0, c0, rfl, hM0⟩ := vd_M hD
 have hs1 := hB1.out.size
 replace hM0 := Aside0.mk (k46.M_lower hs1 hM0)
 have hI2 := Aside0.mk (hI.out.below hB)
 have hB2 := Aside0.mk (below_then hB1.out hB1.out.size hB)
 clear hB hD hs1
 go_wp2_with (first
  | ((with_reducible refine gate_dst (N := 22) rfl ?_); go_loud (refine Kd.S_lits k46 (w0 := w) w.heap.size 46 rfl (N := 22) rfl (xs := [toS d0]) (inner := [.bool d0.ok, .slice A0 d0.l.length c0, .string d0.pre, .string d0.bld, .string d0.txt, .int .u64 d0.a, .int .u64 d0.b, .int .u64 d0.c]) (ok := fun _ => True) (fun j k => j = 0 ∧ w1.heap.size < k) ?hr rfl (one_rep hM0.out) (fun i j k hi hj => hi.1.trans hj.1.symm) (fun _ _ _ => trivial) trivial hB2.out hB2.out.size (by simp) ?_; (case hr => first | (go_simp; done) | (go_simp; rfl)); intro v1 w3 ho hbb hg_ hn_; have hR := Aside0.mk ho; have hB3 := Aside0.mk hbb; have hG3 := Aside0.mk hg_; clear ho hbb hg_ hn_))
  | go_in)
 have hW3 := Aside0.mk (Below.grown (Below.refl w2.heap.size w2) hG3.out (Nat.le_refl _) (fun j hj => by cases hj))
 have hI3 := Aside0.mk (hI2.out.below hW3.out)
 clear hM0 hI hB1 hI2 hB2 hG3 hW3
 go_wp2_with fail
 go_loopw [7, 9, 25] (fun p v i wr => ∃ (k g : Nat), p = .pointer (some ⟨g, 0, none⟩) ∧ i = .int .i64 (k : Int) ∧ k ≤ 4 ∧ Aside0 (VerM.MV wr g M (nth m n k)) ∧ Aside0 (Kd.S k46 46 wr w.heap.size (fun _ => True) v ((outs M m n).take (k + 1))) ∧ Aside0 (Below w.heap.size w wr)) (fun _ _ i _ => 4 - (intOf i).toNat)
 case atStart => exact ⟨0, g, rfl, rfl, by omega, hI3, ⟨by have := hR.out; rw [hd0.out] at this; exact this⟩, hB3⟩
 case round =>
  clear hI3 hR hB3
  obtain ⟨k, g, rfl, rfl, hk, hI, hR, hB⟩ := hrel
  have hrr := Aside0.mk (Kd.C_below hr.out hB.out)
  have hk5 : k = 0 ∨ k = 1 ∨ k = 2 ∨ k = 3 ∨ k = 4 := by omega
  rcases hk5 with hkk | hkk | hkk | hkk | rfl
  ·have hkl : k < 4 := by omega
   obtain ⟨ad, e1, z0, z1, z2, z3⟩ := at_T42 hrr.out (k : Int) (Int.natCast_nonneg k) (by omega)
   have hrd : rd_T42 (stepsL n) (k : Int) = ⟨5, n, 0, ⟨#[]⟩⟩ := by rw [hkk]; rfl
   rw [hrd, Int.toNat_natCast] at z0 z1 z2 z3
   cases e1
   replace hkk := Aside0.mk hkk
   clear hrd
   have hIx : Aside0 (VerM.MV (wr.alloc (.cells #[.int .i64 5, .int .u64 n, .int .i64 (0), .string ⟨#[]⟩] 42)) g M (m)) := ⟨Ver1.IsVer.below (show VerM.MV wr g M (m) from by have := hI.out; rw [hkk.out] at this; exact this) (below_alloc (Below.refl _ _) _)⟩
   have hcon := Aside0.mk (VerM.add_minor g M m n _ hIx.out h0 h1 h2)
   clear hI
   go_wp2_with fail
   refine hcon.out.mono ?_
   rintro e w4 ⟨g4, rfl, hI4, hB4⟩
   replace hI4 := Aside0.mk (hI4.lower (show wr.heap.size ≤ _ by rw [World.size_alloc]; omega))
   have hB4 := Aside0.mk (show Below wr.heap.size wr w4 from below_then (below_alloc (Below.refl _ _) _) (by rw [World.size_alloc]; omega) hB4)
   clear hcon hIx z0 z1 z2 z3
   unfold Ver1.Ptr
   go_wp2_with fail
   refine (Ver6.ver_ok g4 [M, m + n] false ⟨#[]⟩ ⟨#[]⟩ _ hI4.out.mv (hu.out 1) (by simp) (by simp) (by decide) (by decide) (hV.out.below (below_then hB.out hB.out.size hB4.out))).mono ?_
   rintro e w5 ⟨v5, rfl, hD, hB5⟩
   obtain ⟨d5, hd5⟩ : ∃ d5, d5 = Ver6.vdOf [M, m + n] ⟨#[]⟩ ⟨#[]⟩ := ⟨_, rfl⟩
   rw [← hd5] at hD
   replace hd5 := Aside0.mk hd5
   obtain ⟨A5, c5, rfl, hM5⟩ := vd_M hD
   have hs4 : w.heap.size ≤ w4.heap.size := Nat.le_trans hB.out.size hB4.out.size
   replace hM5 := Aside0.mk (k46.M_lower hs4 hM5)
   have hI5 := Aside0.mk (hI4.out.below hB5)
   have hBa := Aside0.mk (below_then hB4.out hB4.out.size hB5)
   have hRa := Aside0.mk (Kd.S_mono (ok' := fun k => True ∧ ¬ w4.heap.size < k) (Kd.S_old hR.out hBa.out) (fun k hk => ⟨trivial, by have h2 := hB4.out.size; have h3 := hk.2; omega⟩))
   have hBb := Aside0.mk (below_then hB.out hB.out.size hBa.out)
   have hok : ∀ k, w4.heap.size < k → True ∧ some k ≠ Value.ownBlock _ := fun k hk => ⟨trivial, fun he => by have h1 := Kd.S_lt hR.out k he.symm; have h2 := hB4.out.size; omega⟩
   replace hok := Aside0.mk hok
   have hll := Aside0.mk (outs_len M m n k (by omega))
   clear hB5 hD hs4 hI4
   go_wp2_with (first
    | ((with_reducible refine gate_builtin (b := .append) (xs := #[.tmp 77, .tmp 80]) rfl ?_); at_builtin; go_loud (refine Kd.S_append k46 (w0 := w) w.heap.size rfl (.tmp 77) (.tmp 80) 38 46 (.agg #[.bool false, .slice none 0 0, .string ⟨#[]⟩, .string ⟨#[]⟩, .string ⟨#[]⟩, .int .u64 0, .int .u64 0, .int .u64 0]) 104 rfl Tryd.underlying38 infoV rfl (by decide) (by omega) _ ((outs M m n).take (k + 1)) (toS d5) [.bool d5.ok, .slice A5 d5.l.length c5, .string d5.pre, .string d5.bld, .string d5.txt, .int .u64 d5.a, .int .u64 d5.b, .int .u64 d5.c] (fun _ => True) (fun k => w4.heap.size < k) rfl rfl hM5.out hok.out (fun _ _ => trivial) hRa.out hBb.out hBb.out.size (by rw [hll.out]; omega) ?_; intro v1 w6 ho hbb hg hat; have ho := Aside0.mk ho; have hbb := Aside0.mk hbb; have hg := Aside0.mk hg; clear hat))
    | go_in)
   go_roundw
   case rel =>
    refine ⟨k + 1, g4, rfl, by go_num, by omega, ⟨?_⟩, ⟨?_⟩, hbb⟩
    ·have h8 := (hI5.out.grown hg.out (fun j hj => Kd.S_lt hR.out j hj)).mv
     rw [show nth m n (k + 1) = m + n by rw [hkk.out]; rfl]
     exact h8
    ·have h9 := ho.out
     rw [hd5.out] at h9
     rw [outs_take M m n k (by omega), show nth m n (k + 1) = m + n by rw [hkk.out]; rfl]
     exact h9
   case measure => simp [intOf]; omega
  ·have hkl : k < 4 := by omega
   obtain ⟨ad, e1, z0, z1, z2, z3⟩ := at_T42 hrr.out (k : Int) (Int.natCast_nonneg k) (by omega)
   have hrd : rd_T42 (stepsL n) (k : Int) = ⟨6, n, 0, ⟨#[]⟩⟩ := by rw [hkk]; rfl
   rw [hrd, Int.toNat_natCast] at z0 z1 z2 z3
   cases e1
   replace hkk := Aside0.mk hkk
   clear hrd
   have hIx : Aside0 (VerM.MV (wr.alloc (.cells #[.int .i64 6, .int .u64 n, .int .i64 (0), .string ⟨#[]⟩] 42)) g M (m + n)) := ⟨Ver1.IsVer.below (show VerM.MV wr g M (m + n) from by have := hI.out; rw [hkk.out] at this; exact this) (below_alloc (Below.refl _ _) _)⟩
   have hcon := Aside0.mk (VerM.sub_minor g M m n _ hIx.out h0 h1 h2)
   clear hI
   go_wp2_with fail
   refine hcon.out.mono ?_
   rintro e w4 ⟨g4, rfl, hI4, hB4⟩
   replace hI4 := Aside0.mk (hI4.lower (show wr.heap.size ≤ _ by rw [World.size_alloc]; omega))
   have hB4 := Aside0.mk (show Below wr.heap.size wr w4 from below_then (below_alloc (Below.refl _ _) _) (by rw [World.size_alloc]; omega) hB4)
   clear hcon hIx z0 z1 z2 z3
   unfold Ver1.Ptr
   go_wp2_with fail
   refine (Ver6.ver_ok g4 [M, m] false ⟨#[]⟩ ⟨#[]⟩ _ hI4.out.mv (hu.out 2) (by simp) (by simp) (by decide) (by decide) (hV.out.below (below_then hB.out hB.out.size hB4.out))).mono ?_
   rintro e w5 ⟨v5, rfl, hD, hB5⟩
   obtain ⟨d5, hd5⟩ : ∃ d5, d5 = Ver6.vdOf [M, m] ⟨#[]⟩ ⟨#[]⟩ := ⟨_, rfl⟩
   rw [← hd5] at hD
   replace hd5 := Aside0.mk hd5
   obtain ⟨A5, c5, rfl, hM5⟩ := vd_M hD
   have hs4 : w.heap.size ≤ w4.heap.size := Nat.le_trans hB.out.size hB4.out.size
   replace hM5 := Aside0.mk (k46.M_lower hs4 hM5)
   have hI5 := Aside0.mk (hI4.out.below hB5)
   have hBa := Aside0.mk (below_then hB4.out hB4.out.size hB5)
   have hRa := Aside0.mk (Kd.S_mono (ok' := fun k => True ∧ ¬ w4.heap.size < k) (Kd.S_old hR.out hBa.out) (fun k hk => ⟨trivial, by have h2 := hB4.out.size; have h3 := hk.2; omega⟩))
   have hBb := Aside0.mk (below_then hB.out hB.out.size hBa.out)
   have hok : ∀ k, w4.heap.size < k → True ∧ some k ≠ Value.ownBlock _ := fun k hk => ⟨trivial, fun he => by have h1 := Kd.S_lt hR.out k he.symm; have h2 := hB4.out.size; omega⟩
   replace hok := Aside0.mk hok
   have hll := Aside0.mk (outs_len M m n k (by omega))
   clear hB5 hD hs4 hI4
   go_wp2_with (first
    | ((with_reducible refine gate_builtin (b := .append) (xs := #[.tmp 77, .tmp 80]) rfl ?_); at_builtin; go_loud (refine Kd.S_append k46 (w0 := w) w.heap.size rfl (.tmp 77) (.tmp 80) 38 46 (.agg #[.bool false, .slice none 0 0, .string ⟨#[]⟩, .string ⟨#[]⟩, .string ⟨#[]⟩, .int .u64 0, .int .u64 0, .int .u64 0]) 104 rfl Tryd.underlying38 infoV rfl (by decide) (by omega) _ ((outs M m n).take (k + 1)) (toS d5) [.bool d5.ok, .slice A5 d5.l.length c5, .string d5.pre, .string d5.bld, .string d5.txt, .int .u64 d5.a, .int .u64 d5.b, .int .u64 d5.c] (fun _ => True) (fun k => w4.heap.size < k) rfl rfl hM5.out hok.out (fun _ _ => trivial) hRa.out hBb.out hBb.out.size (by rw [hll.out]; omega) ?_; intro v1 w6 ho hbb hg hat; have ho := Aside0.mk ho; have hbb := Aside0.mk hbb; have hg := Aside0.mk hg; clear hat))
    | go_in)
   go_roundw
   case rel =>
    refine ⟨k + 1, g4, rfl, by go_num, by omega, ⟨?_⟩, ⟨?_⟩, hbb⟩
    ·have h8 := (hI5.out.grown hg.out (fun j hj => Kd.S_lt hR.out j hj)).mv
     rw [show nth m n (k + 1) = m by rw [hkk.out]; rfl]
     exact h8
    ·have h9 := ho.out
     rw [hd5.out] at h9
     rw [outs_take M m n k (by omega), show nth m n (k + 1) = m by rw [hkk.out]; rfl]
     exact h9
   case measure => simp [intOf]; omega
  ·have hkl : k < 4 := by omega
   obtain ⟨ad, e1, z0, z1, z2, z3⟩ := at_T42 hrr.out (k : Int) (Int.natCast_nonneg k) (by omega)
   have hrd : rd_T42 (stepsL n) (k : Int) = ⟨7, 0, n, ⟨#[]⟩⟩ := by rw [hkk]; rfl
   rw [hrd, Int.toNat_natCast] at z0 z1 z2 z3
   cases e1
   replace hkk := Aside0.mk hkk
   clear hrd
   have hIx : Aside0 (VerM.MV (wr.alloc (.cells #[.int .i64 7, .int .u64 0, .int .i64 (n), .string ⟨#[]⟩] 42)) g M (m)) := ⟨Ver1.IsVer.below (show VerM.MV wr g M (m) from by have := hI.out; rw [hkk.out] at this; exact this) (below_alloc (Below.refl _ _) _)⟩
   have hcon := Aside0.mk (VerM.offset_up g M m n _ hIx.out h0 h1 h2)
   clear hI
   go_wp2_with fail
   refine hcon.out.mono ?_
   rintro e w4 ⟨g4, rfl, hI4, hB4⟩
   replace hI4 := Aside0.mk (hI4.lower (show wr.heap.size ≤ _ by rw [World.size_alloc]; omega))
   have hB4 := Aside0.mk (show Below wr.heap.size wr w4 from below_then (below_alloc (Below.refl _ _) _) (by rw [World.size_alloc]; omega) hB4)
   clear hcon hIx z0 z1 z2 z3
   unfold Ver1.Ptr
   go_wp2_with fail
   refine (Ver6.ver_ok g4 [M, m + n] false ⟨#[]⟩ ⟨#[]⟩ _ hI4.out.mv (hu.out 3) (by simp) (by simp) (by decide) (by decide) (hV.out.below (below_then hB.out hB.out.size hB4.out))).mono ?_
   rintro e w5 ⟨v5, rfl, hD, hB5⟩
   obtain ⟨d5, hd5⟩ : ∃ d5, d5 = Ver6.vdOf [M, m + n] ⟨#[]⟩ ⟨#[]⟩ := ⟨_, rfl⟩
   rw [← hd5] at hD
   replace hd5 := Aside0.mk hd5
   obtain ⟨A5, c5, rfl, hM5⟩ := vd_M hD
   have hs4 : w.heap.size ≤ w4.heap.size := Nat.le_trans hB.out.size hB4.out.size
   replace hM5 := Aside0.mk (k46.M_lower hs4 hM5)
   have hI5 := Aside0.mk (hI4.out.below hB5)
   have hBa := Aside0.mk (below_then hB4.out hB4.out.size hB5)
   have hRa := Aside0.mk (Kd.S_mono (ok' := fun k => True ∧ ¬ w4.heap.size < k) (Kd.S_old hR.out hBa.out) (fun k hk => ⟨trivial, by have h2 := hB4.out.size; have h3 := hk.2; omega⟩))
   have hBb := Aside0.mk (below_then hB.out hB.out.size hBa.out)
   have hok : ∀ k, w4.heap.size < k → True ∧ some k ≠ Value.ownBlock _ := fun k hk => ⟨trivial, fun he => by have h1 := Kd.S_lt hR.out k he.symm; have h2 := hB4.out.size; omega⟩
   replace hok := Aside0.mk hok
   have hll := Aside0.mk (outs_len M m n k (by omega))
   clear hB5 hD hs4 hI4
   go_wp2_with (first
    | ((with_reducible refine gate_builtin (b := .append) (xs := #[.tmp 77, .tmp 80]) rfl ?_); at_builtin; go_loud (refine Kd.S_append k46 (w0 := w) w.heap.size rfl (.tmp 77) (.tmp 80) 38 46 (.agg #[.bool false, .slice none 0 0, .string ⟨#[]⟩, .string ⟨#[]⟩, .string ⟨#[]⟩, .int .u64 0, .int .u64 0, .int .u64 0]) 104 rfl Tryd.underlying38 infoV rfl (by decide) (by omega) _ ((outs M m n).take (k + 1)) (toS d5) [.bool d5.ok, .slice A5 d5.l.length c5, .string d5.pre, .string d5.bld, .string d5.txt, .int .u64 d5.a, .int .u64 d5.b, .int .u64 d5.c] (fun _ => True) (fun k => w4.heap.size < k) rfl rfl hM5.out hok.out (fun _ _ => trivial) hRa.out hBb.out hBb.out.size (by rw [hll.out]; omega) ?_; intro v1 w6 ho hbb hg hat; have ho := Aside0.mk ho; have hbb := Aside0.mk hbb; have hg := Aside0.mk hg; clear hat))
    | go_in)
   go_roundw
   case rel =>
    refine ⟨k + 1, g4, rfl, by go_num, by omega, ⟨?_⟩, ⟨?_⟩, hbb⟩
    ·have h8 := (hI5.out.grown hg.out (fun j hj => Kd.S_lt hR.out j hj)).mv
     rw [show nth m n (k + 1) = m + n by rw [hkk.out]; rfl]
     exact h8
    ·have h9 := ho.out
     rw [hd5.out] at h9
     rw [outs_take M m n k (by omega), show nth m n (k + 1) = m + n by rw [hkk.out]; rfl]
     exact h9
   case measure => simp [intOf]; omega
  ·have hkl : k < 4 := by omega
   obtain ⟨ad, e1, z0, z1, z2, z3⟩ := at_T42 hrr.out (k : Int) (Int.natCast_nonneg k) (by omega)
   have hrd : rd_T42 (stepsL n) (k : Int) = ⟨7, 0, -n, ⟨#[]⟩⟩ := by rw [hkk]; rfl
   rw [hrd, Int.toNat_natCast] at z0 z1 z2 z3
   cases e1
   replace hkk := Aside0.mk hkk
   clear hrd
   have hIx : Aside0 (VerM.MV (wr.alloc (.cells #[.int .i64 7, .int .u64 0, .int .i64 (-n), .string ⟨#[]⟩] 42)) g M (m + n)) := ⟨Ver1.IsVer.below (show VerM.MV wr g M (m + n) from by have := hI.out; rw [hkk.out] at this; exact this) (below_alloc (Below.refl _ _) _)⟩
   have hcon := Aside0.mk (VerM.offset_down g M m n _ hIx.out h0 h1 h2)
   clear hI
   go_wp2_with fail
   refine hcon.out.mono ?_
   rintro e w4 ⟨g4, rfl, hI4, hB4⟩
   replace hI4 := Aside0.mk (hI4.lower (show wr.heap.size ≤ _ by rw [World.size_alloc]; omega))
   have hB4 := Aside0.mk (show Below wr.heap.size wr w4 from below_then (below_alloc (Below.refl _ _) _) (by rw [World.size_alloc]; omega) hB4)
   clear hcon hIx z0 z1 z2 z3
   unfold Ver1.Ptr
   go_wp2_with fail
   refine (Ver6.ver_ok g4 [M, m] false ⟨#[]⟩ ⟨#[]⟩ _ hI4.out.mv (hu.out 4) (by simp) (by simp) (by decide) (by decide) (hV.out.below (below_then hB.out hB.out.size hB4.out))).mono ?_
   rintro e w5 ⟨v5, rfl, hD, hB5⟩
   obtain ⟨d5, hd5⟩ : ∃ d5, d5 = Ver6.vdOf [M, m] ⟨#[]⟩ ⟨#[]⟩ := ⟨_, rfl⟩
   rw [← hd5] at hD
   replace hd5 := Aside0.mk hd5
   obtain ⟨A5, c5, rfl, hM5⟩ := vd_M hD
   have hs4 : w.heap.size ≤ w4.heap.size := Nat.le_trans hB.out.size hB4.out.size
   replace hM5 := Aside0.mk (k46.M_lower hs4 hM5)
   have hI5 := Aside0.mk (hI4.out.below hB5)
   have hBa := Aside0.mk (below_then hB4.out hB4.out.size hB5)
   have hRa := Aside0.mk (Kd.S_mono (ok' := fun k => True ∧ ¬ w4.heap.size < k) (Kd.S_old hR.out hBa.out) (fun k hk => ⟨trivial, by have h2 := hB4.out.size; have h3 := hk.2; omega⟩))
   have hBb := Aside0.mk (below_then hB.out hB.out.size hBa.out)
   have hok : ∀ k, w4.heap.size < k → True ∧ some k ≠ Value.ownBlock _ := fun k hk => ⟨trivial, fun he => by have h1 := Kd.S_lt hR.out k he.symm; have h2 := hB4.out.size; omega⟩
   replace hok := Aside0.mk hok
   have hll := Aside0.mk (outs_len M m n k (by omega))
   clear hB5 hD hs4 hI4
   go_wp2_with (first
    | ((with_reducible refine gate_builtin (b := .append) (xs := #[.tmp 77, .tmp 80]) rfl ?_); at_builtin; go_loud (refine Kd.S_append k46 (w0 := w) w.heap.size rfl (.tmp 77) (.tmp 80) 38 46 (.agg #[.bool false, .slice none 0 0, .string ⟨#[]⟩, .string ⟨#[]⟩, .string ⟨#[]⟩, .int .u64 0, .int .u64 0, .int .u64 0]) 104 rfl Tryd.underlying38 infoV rfl (by decide) (by omega) _ ((outs M m n).take (k + 1)) (toS d5) [.bool d5.ok, .slice A5 d5.l.length c5, .string d5.pre, .string d5.bld, .string d5.txt, .int .u64 d5.a, .int .u64 d5.b, .int .u64 d5.c] (fun _ => True) (fun k => w4.heap.size < k) rfl rfl hM5.out hok.out (fun _ _ => trivial) hRa.out hBb.out hBb.out.size (by rw [hll.out]; omega) ?_; intro v1 w6 ho hbb hg hat; have ho := Aside0.mk ho; have hbb := Aside0.mk hbb; have hg := Aside0.mk hg; clear hat))
    | go_in)
   go_roundw
   case rel =>
    refine ⟨k + 1, g4, rfl, by go_num, by omega, ⟨?_⟩, ⟨?_⟩, hbb⟩
    ·have h8 := (hI5.out.grown hg.out (fun j hj => Kd.S_lt hR.out j hj)).mv
     rw [show nth m n (k + 1) = m by rw [hkk.out]; rfl]
     exact h8
    ·have h9 := ho.out
     rw [hd5.out] at h9
     rw [outs_take M m n k (by omega), show nth m n (k + 1) = m by rw [hkk.out]; rfl]
     exact h9
   case measure => simp [intOf]; omega
  ·rw [show (((4 : Nat)) : Int) = 4 from rfl]
   go_wp2_with fail
   go_ret
   exact ⟨_, rfl, hR.out, hB.out⟩
def impl_VersionSteps.f (_ : Nat) (a0 : Int) (a1 : ByteArray) (l2 : List S42) : Option (List S46) :=
 match VerQ.parsedL 1 a1 with
 | some (false, [M, m], p, b) =>
  if a0 = 1 ∧ a1.size ≤ 2147483647 ∧ p.data.toList = [] ∧ b.data.toList = [] ∧ (l2.map fun s => (s.f0, s.f1, s.f2, s.f3.data.toList)) = ((stepsL (rd_T42 l2 0).f1).map fun s => (s.f0, s.f1, s.f2, s.f3.data.toList)) ∧ 0 ≤ M ∧ M < 18446744073709551616 ∧ 0 ≤ m ∧ 0 ≤ (rd_T42 l2 0).f1 ∧ m + (rd_T42 l2 0).f1 ≤ 9223372036854775807 then some (outs M m (rd_T42 l2 0).f1) else none
 | _ => none
theorem steps_inj : ∀ (a b : List S42), (a.map fun s => (s.f0, s.f1, s.f2, s.f3.data.toList)) = (b.map fun s => (s.f0, s.f1, s.f2, s.f3.data.toList)) → a = b
 | [], [], _ => rfl
 | [], _ :: _, h => by simp at h
 | _ :: _, [], h => by simp at h
 | x :: a, y :: b, h => by
  simp only [List.map_cons, List.cons.injEq, Prod.mk.injEq] at h
  obtain ⟨⟨h0, h1, h2, h3⟩, h4⟩ := h
  rw [steps_inj a b h4]
  rcases x with ⟨x0, x1, x2, x3⟩
  rcases y with ⟨y0, y1, y2, y3⟩
  simp only at h0 h1 h2 h3
  have h5 : x3 = y3 := ByteArray.ext (Array.ext' h3)
  rw [h0, h1, h2, h5]
theorem impl_VersionSteps.calls (k : Nat) (a0 : Int) (a1 : ByteArray) (A2 : Option Addr) (c2 : Nat) (l2 : List S42) (r : List S46) (w : World) (hr2 : Kd.C k42 w A2 l2.length l2) (hc2 : l2.length ≤ c2) (h : impl_VersionSteps.f k a0 a1 l2 = some r) (hV : VT.V w := by first | assumption | exact VT.V.below hV (by repeat (first | exact HB.out | exact HB | exact Below.refl _ _ | apply below_alloc | apply pw_below_drewN | apply below_drew1))) :
  Calls Tryd.prog 14 #[.int .i64 a0, .string a1, .slice A2 l2.length c2] w fun e w' => ∃ v0_ : Value, e = .returned (v0_) ∧ Kd.S k46 46 w' w.heap.size (fun _ => True) v0_ r ∧ Below w.heap.size w w' := by
 unfold impl_VersionSteps.f at h
 split at h
 ·rename_i M m p b hpl
  split at h
  ·rename_i hq
   obtain ⟨q1, q2, q3, q4, q5, q6, q7, q8, q9, q10⟩ := hq
   obtain rfl := Option.some.inj h
   have e5 := steps_inj _ _ q5
   obtain rfl : p = ⟨#[]⟩ := ByteArray.ext (Array.ext' q3)
   obtain rfl : b = ⟨#[]⟩ := ByteArray.ext (Array.ext' q4)
   subst q1
   obtain ⟨K1, e1⟩ := VerQ.parsed_ev 1 a1 q2
   have hp := e1 K1 (Nat.le_refl _)
   rw [hpl] at hp
   have hl : l2.length = 4 := by rw [e5]; rfl
   rw [hl] at hr2 ⊢
   obtain ⟨n, hn⟩ : ∃ n, n = (rd_T42 l2 0).f1 := ⟨_, rfl⟩
   rw [← hn] at e5 q9 q10 ⊢
   rw [e5] at hr2
   exact steps_calls A2 c2 M m n a1 K1 w hp hr2 ⟨q6, q7⟩ q8 q9 q10 hV
  ·cases h
 ·cases h
def spec_VerUintText.f : Nat → Int → Option (ByteArray)
 | 0, _ => none
 | k + 1, a0 => (some (([(IntKind.u64.wrap (48 + (Int.tmod a0 10))) % 256] : List Int) : List Int)).bind fun y103 => (if a0 < 10 then (some (strOfNums y103)) else ((spec_VerUintText.f k (IntKind.u64.wrap (Int.tdiv a0 10))).bind fun t106 => (if t106.size + (strOfNums y103).size ≤ 9223372036854775807 then (some (t106 ++ (strOfNums y103))) else (none))))
set_option maxHeartbeats 8000000 in
set_option maxRecDepth 100000 in
theorem spec_VerUintText.calls (k : Nat) : ∀ (a0 : Int) (r : ByteArray) (w : World) (h : spec_VerUintText.f k a0 = some r),
  Calls Tryd.prog 46 #[.int .u64 a0] w fun e w' => e = .returned (.string r) ∧ Below w.heap.size w w' := by
 induction k using Nat.strongRecOn with
 | _ k ih =>
 intro a0 r w h
 cases k with
 | zero => exact absurd h (by simp [spec_VerUintText.f])
 | succ k =>
 simp only [spec_VerUintText.f] at h
 have HB := Aside0.mk (Below.refl w.heap.size w)
 have H : ((some (([(IntKind.u64.wrap (48 + (Int.tmod a0 10))) % 256] : List Int) : List Int)).bind fun y103 => (if a0 < 10 then (some (strOfNums y103)) else ((spec_VerUintText.f k (IntKind.u64.wrap (Int.tdiv a0 10))).bind fun t106 => (if t106.size + (strOfNums y103).size ≤ 9223372036854775807 then (some (t106 ++ (strOfNums y103))) else (none))))) = some r := h
 clear h
 obtain ⟨y103, hy103⟩ : ∃ y_ : List Int, y_ = (([(IntKind.u64.wrap (48 + (Int.tmod a0 10))) % 256] : List Int)) := ⟨_, rfl⟩
 replace H : (if a0 < 10 then (some (strOfNums y103)) else ((spec_VerUintText.f k (IntKind.u64.wrap (Int.tdiv a0 10))).bind fun t106 => (if t106.size + (strOfNums y103).size ≤ 9223372036854775807 then (some (t106 ++ (strOfNums y103))) else (none)))) = some r := by first | (rw [hy103]; with_reducible exact H) | (have H2_ := (Option.bind_some _ _).symm.trans H; rw [hy103]; with_reducible exact H2_) | (have H2_ := (Option.bind_some _ _).symm.trans H; with_reducible exact H2_) | with_reducible exact H | (rw [hy103]; exact H) | exact H
 have Ny103 := Aside0.mk hy103
 clear hy103
 by_cases c2 : a0 < 10
 ·rw [if_pos c2] at H
  have c2b0 : decide (a0 < 10) = true := decide_eq_true c2
  clear c2
  obtain rfl := Option.some.inj H
  go_enter Tryd.func46, Tryd.ntmps46
  go_wp2_with (first | ((with_reducible refine gate_dst (N := 8) rfl ?_); refine Kd.R_lit (Kd.int .u8) _ 5 ?hg (N := 8) ?hd (xs := ([(IntKind.u64.wrap (48 + (Int.tmod a0 10))) % 256] : List Int)) (inner := [.int .u8 ((IntKind.u64.wrap (48 + (Int.tmod a0 10))) % 256)]) (ok := fun _ => True) (okp := fun _ => True) ?hr ?hp (fun _ hk => hk) trivial (Below.refl _ _) (Nat.le_refl _) (by simp) ?_; (case hd => rfl); (case hg => rfl); (case hr => first | (go_simp; done) | (go_simp; rfl)); (case hp => exact (Reps.one (show Kd.M (Kd.int .u8) _ _ _ ((IntKind.u64.wrap (48 + (Int.tmod a0 10))) % 256) [.int .u8 ((IntKind.u64.wrap (48 + (Int.tmod a0 10))) % 256)] from rfl) (Reps.none _ _))); intro v104 w3 ho4 hb hg_ hnew_; clear hg_ hnew_; (first | rw [← Ny103.out] at ho4 | (simp only [Int.reduceToNat] at ho4; rw [← Ny103.out] at ho4)); have n0_ := Aside0.mk (Kd.R_lower ho4 (below_size (by repeat (first | (with_reducible first | exact HB.out | apply below_alloc | apply pw_below_drewN | apply below_drew1) | exact HB.out)))); have n1_ := Aside0.mk (below_step (by repeat (first | (with_reducible first | exact HB.out | apply below_alloc | apply pw_below_drewN | apply below_drew1) | exact HB.out)) hb); clear HB; have HO105 := n0_; have HB := n1_; clear n0_ n1_; clear hb ho4; have hcv5 := own_string (P := Tryd.prog) Tryd.underlying91 Tryd.underlying5 Tryd.underlying9 (Kd.own_of_R HO105.out)))
  go_ret
  exact ⟨by first | rfl | (simp [errW_none, errW_some] <;> rfl) | (simp [*, errW_none, errW_some] <;> rfl), by repeat (first | (with_reducible first | exact HB.out | apply below_alloc | apply pw_below_drewN | apply below_drew1) | exact HB.out)⟩
 ·rw [if_neg c2] at H
  have c2b0 : decide (a0 < 10) = false := decide_eq_false c2
  clear c2
  replace H := Option.bind_eq_some_iff.mp H
  obtain ⟨t106, A60, H⟩ := H
  replace H : (if t106.size + (strOfNums y103).size ≤ 9223372036854775807 then (some (t106 ++ (strOfNums y103))) else (none)) = some r := H
  have A6 := Aside0.mk A60
  clear A60
  by_cases c7 : t106.size + (strOfNums y103).size ≤ 9223372036854775807
  ·rw [if_pos c7] at H
   have c7b0 := eq_true c7
   have c7b1 : decide (t106.size + (strOfNums y103).size ≤ 9223372036854775807) = true := decide_eq_true c7
   try have c7b2 : (9223372036854775807 < t106.size + (strOfNums y103).size) = False := eq_false (Nat.not_lt.2 c7)
   obtain rfl := Option.some.inj H
   go_enter Tryd.func46, Tryd.ntmps46
   go_wp2_with (first | ((with_reducible refine gate_dst (N := 8) rfl ?_); refine Kd.R_lit (Kd.int .u8) _ 5 ?hg (N := 8) ?hd (xs := ([(IntKind.u64.wrap (48 + (Int.tmod a0 10))) % 256] : List Int)) (inner := [.int .u8 ((IntKind.u64.wrap (48 + (Int.tmod a0 10))) % 256)]) (ok := fun _ => True) (okp := fun _ => True) ?hr ?hp (fun _ hk => hk) trivial (Below.refl _ _) (Nat.le_refl _) (by simp) ?_; (case hd => rfl); (case hg => rfl); (case hr => first | (go_simp; done) | (go_simp; rfl)); (case hp => exact (Reps.one (show Kd.M (Kd.int .u8) _ _ _ ((IntKind.u64.wrap (48 + (Int.tmod a0 10))) % 256) [.int .u8 ((IntKind.u64.wrap (48 + (Int.tmod a0 10))) % 256)] from rfl) (Reps.none _ _))); intro v104 w8 ho9 hb hg_ hnew_; clear hg_ hnew_; (first | rw [← Ny103.out] at ho9 | (simp only [Int.reduceToNat] at ho9; rw [← Ny103.out] at ho9)); have n0_ := Aside0.mk (Kd.R_lower ho9 (below_size (by repeat (first | (with_reducible first | exact HB.out | apply below_alloc | apply pw_below_drewN | apply below_drew1) | exact HB.out)))); have n1_ := Aside0.mk (below_step (by repeat (first | (with_reducible first | exact HB.out | apply below_alloc | apply pw_below_drewN | apply below_drew1) | exact HB.out)) hb); clear HB; have HO105 := n0_; have HB := n1_; clear n0_ n1_; clear hb ho9; have hcv10 := own_string (P := Tryd.prog) Tryd.underlying91 Tryd.underlying5 Tryd.underlying9 (Kd.own_of_R HO105.out)) | ((with_reducible refine gate_callee (f := 46) rfl ?_); refine goesL_ (some 15) rfl rfl Tryd.func46 (by kernel_rfl) rfl #[.int .u64 (IntKind.u64.wrap (Int.tdiv a0 10))] rfl (by (try simp only [List.map_toArray, List.map_cons, List.map_nil]); first | done | rfl | (simp only [List.length_drop, List.length_take]; rfl)) ?_; (with_reducible refine (ih k (by omega) (IntKind.u64.wrap (Int.tdiv a0 10)) t106 _ A6.out).mono ?_); rintro e w11 ⟨rfl, hb⟩; refine ⟨_, rfl, ?_⟩; have n0_ := Aside0.mk (Kd.R_below (by (with_reducible repeat (first | apply Kd.R_alloc | apply Kd.R_drewN | apply Kd.R_drew)); exact HO105.out) hb); have n1_ := Aside0.mk (below_step (by repeat (first | (with_reducible first | exact HB.out | apply below_alloc | apply pw_below_drewN | apply below_drew1) | exact HB.out)) hb); clear HO105; clear HB; have HO105 := n0_; have HB := n1_; clear n0_ n1_; (try clear hb); (try clear hb2); (try clear hk); (try clear hi)))
   go_ret
   exact ⟨by first | rfl | (simp [errW_none, errW_some] <;> rfl) | (simp [*, errW_none, errW_some] <;> rfl), by repeat (first | (with_reducible first | exact HB.out | apply below_alloc | apply pw_below_drewN | apply below_drew1) | exact HB.out)⟩
  ·rw [if_neg c7] at H
   exact absurd H (by simp)
def spec_Version_Text.l0 : Nat → ByteArray → Int → List Int → Bool → ByteArray → ByteArray → Option (ByteArray)
 | 0, _, _, _, _, _, _ => none
 | k + 1, x3, x4, x108000, x108001, x108002, x108003 => if x4 < (x108000.length : Int) then (if x4 > 0 then (if x3.size + 1 ≤ 9223372036854775807 then (if 0 ≤ x4 then ((spec_VerUintText.f k (rd x108000 x4)).bind fun t109 => (if (x3 ++ (⟨#[46]⟩ : ByteArray)).size + t109.size ≤ 9223372036854775807 then (spec_Version_Text.l0 k ((x3 ++ (⟨#[46]⟩ : ByteArray)) ++ t109) (wrap64 (x4 + 1)) x108000 x108001 x108002 x108003) else (none))) else (none)) else (none)) else (if 0 ≤ x4 then ((spec_VerUintText.f k (rd x108000 x4)).bind fun t111 => (if x3.size + t111.size ≤ 9223372036854775807 then (spec_Version_Text.l0 k (x3 ++ t111) (wrap64 (x4 + 1)) x108000 x108001 x108002 x108003) else (none))) else (none))) else (if x108002.toList = ([] : List UInt8) then (if x108003.toList = ([] : List UInt8) then (some x3) else (if x3.size + 1 ≤ 9223372036854775807 then (if (x3 ++ (⟨#[43]⟩ : ByteArray)).size + x108003.size ≤ 9223372036854775807 then (some ((x3 ++ (⟨#[43]⟩ : ByteArray)) ++ x108003)) else (none)) else (none))) else (if x3.size + 1 ≤ 9223372036854775807 then (if (x3 ++ (⟨#[45]⟩ : ByteArray)).size + x108002.size ≤ 9223372036854775807 then (if x108003.toList = ([] : List UInt8) then (some ((x3 ++ (⟨#[45]⟩ : ByteArray)) ++ x108002)) else (if ((x3 ++ (⟨#[45]⟩ : ByteArray)) ++ x108002).size + 1 ≤ 9223372036854775807 then (if (((x3 ++ (⟨#[45]⟩ : ByteArray)) ++ x108002) ++ (⟨#[43]⟩ : ByteArray)).size + x108003.size ≤ 9223372036854775807 then (some ((((x3 ++ (⟨#[45]⟩ : ByteArray)) ++ x108002) ++ (⟨#[43]⟩ : ByteArray)) ++ x108003)) else (none)) else (none))) else (none)) else (none)))
def spec_Version_Text.f (k : Nat) (l0_0 : List Int) (a0_1 : Bool) (a0_2 : ByteArray) (a0_3 : ByteArray) : Option (ByteArray) := spec_Version_Text.l0 k (⟨#[]⟩ : ByteArray) 0 l0_0 a0_1 a0_2 a0_3
set_option maxHeartbeats 8000000 in
set_option maxRecDepth 100000 in
theorem spec_Version_Text.calls (k : Nat) (A0_0 : Option Addr) (c0_0 : Nat) (l0_0 : List Int) (a0_1 : Bool) (a0_2 : ByteArray) (a0_3 : ByteArray) (r : ByteArray) (w : World) (hr0_0 : Kd.C (Kd.int .u64) w A0_0 l0_0.length l0_0) (hc0_0 : l0_0.length ≤ c0_0) (h : spec_Version_Text.f k l0_0 a0_1 a0_2 a0_3 = some r) :
  Calls Tryd.prog 15 #[.agg #[.slice A0_0 l0_0.length c0_0, .bool a0_1, .string a0_2, .string a0_3]] w fun e w' => e = .returned (.string r) ∧ Below w.heap.size w w' := by
 have hu25 := Tryd.underlying25
 have HR0_0 := Aside0.mk hr0_0
 have HC0_0 := Aside0.mk hc0_0
 clear hr0_0 hc0_0
 have HB := Aside0.mk (Below.refl w.heap.size w)
 have H : (spec_Version_Text.l0 k (⟨#[]⟩ : ByteArray) 0 l0_0 a0_1 a0_2 a0_3) = some r := h
 clear h
 have H' := Aside0.mk H
 clear H
 go_enter Tryd.func15, Tryd.ntmps15
 go_wp2_with (first | ((with_reducible refine gate_dst (N := 1) rfl ?_); refine box_event ?hg (N := 1) ?hd (cs := #[.slice A0_0 l0_0.length c0_0, .bool a0_1, .string a0_2, .string a0_3]) (t := 25) ?hr ?_; (case hd => rfl); (case hg => rfl); (case hr => first | (go_simp; done) | (go_simp; rfl)); intro gb107 hg w2 hbox hb; have n0_ := Aside0.mk (below_step (by repeat (first | (with_reducible first | exact HB.out | apply below_alloc | apply pw_below_drewN | apply below_drew1) | exact HB.out)) hb); have n1_ := Aside0.mk (hbox); have n2_ := Aside0.mk ((by rw [hg]; exact (below_size (by repeat (first | (with_reducible first | exact HB.out | apply below_alloc | apply pw_below_drewN | apply below_drew1) | exact HB.out))) : w.heap.size ≤ gb107)); have n3_ := Aside0.mk ((by rw [hg]; exact (below_size (by repeat (first | (with_reducible first | exact HB.out | apply below_alloc | apply pw_below_drewN | apply below_drew1) | exact HB.out))) : w.heap.size ≤ gb107)); clear HB; have HB := n0_; have BK107 := n1_; have GW107 := n2_; have GE107 := n3_; clear n0_ n1_ n2_ n3_; clear hb hbox hg))
 go_loopg [3, 4] k (fun kq v3 v4 w' => ∃ (x3_1 : ByteArray) (x4_1 : Int), v3 = .string x3_1 ∧ v4 = .int .i64 x4_1 ∧ Aside0 (spec_Version_Text.l0 kq x3_1 x4_1 l0_0 a0_1 a0_2 a0_3 = some r) ∧ Aside0 (kq ≤ k) ∧ Aside0 (w'.heap[gb107]? = some (.cells #[(.slice A0_0 l0_0.length c0_0), .bool a0_1, .string a0_2, .string a0_3] 25 (0, 0))) ∧ Aside0 (Below w.heap.size w w'))
 case atStart => exact ⟨((⟨#[]⟩ : ByteArray)), (0), (by first | rfl | (simp; done) | (simp [*]; done)), (by first | rfl | (simp; done) | (simp [*]; done)), H', ⟨Nat.le_refl _⟩, ⟨by (with_reducible repeat (first | refine blk_drewN ?_ _ | refine blk_drew ?_ | refine blk_alloc ?_ _)); exact BK107.out⟩, ⟨by repeat (first | (with_reducible first | exact HB.out | apply below_alloc | apply pw_below_drewN | apply below_drew1 | refine below_set ?_ GE107.out) | exact HB.out)⟩⟩
 case round =>
  clear H'
  try clear c1
  try clear p2
  obtain ⟨x3_1, x4_1, rfl, rfl, HA, HK1, BK107, HB⟩ := hrel
  cases gk with
  | zero => exact absurd HA.out (by simp [spec_Version_Text.l0])
  | succ k1 =>
   have H := HA.out
   clear HA
   simp only [spec_Version_Text.l0] at H
   by_cases c3 : x4_1 < (l0_0.length : Int)
   ·rw [if_pos c3] at H
    have c3b0 : decide (x4_1 < (l0_0.length : Int)) = true := decide_eq_true c3
    clear c3
    by_cases c4 : x4_1 > 0
    ·rw [if_pos c4] at H
     have c4b0 : decide (0 < x4_1) = true := decide_eq_true c4
     clear c4
     by_cases c5 : x3_1.size + 1 ≤ 9223372036854775807
     ·rw [if_pos c5] at H
      have c5b0 := eq_true c5
      have c5b1 : decide (x3_1.size + 1 ≤ 9223372036854775807) = true := decide_eq_true c5
      try have c5b2 : (9223372036854775807 < x3_1.size + 1) = False := eq_false (Nat.not_lt.2 c5)
      by_cases c6 : 0 ≤ x4_1
      ·rw [if_pos c6] at H
       have c6b0 : decide (0 ≤ x4_1) = true := decide_eq_true c6
       clear c6
       replace H := Option.bind_eq_some_iff.mp H
       obtain ⟨t109, A70, H⟩ := H
       replace H : (if (x3_1 ++ (⟨#[46]⟩ : ByteArray)).size + t109.size ≤ 9223372036854775807 then (spec_Version_Text.l0 k1 ((x3_1 ++ (⟨#[46]⟩ : ByteArray)) ++ t109) (wrap64 (x4_1 + 1)) l0_0 a0_1 a0_2 a0_3) else (none)) = some r := H
       have A7 := Aside0.mk A70
       clear A70
       by_cases c8 : (x3_1 ++ (⟨#[46]⟩ : ByteArray)).size + t109.size ≤ 9223372036854775807
       ·rw [if_pos c8] at H
        have c8b0 := eq_true c8
        have c8b1 : decide ((x3_1 ++ (⟨#[46]⟩ : ByteArray)).size + t109.size ≤ 9223372036854775807) = true := decide_eq_true c8
        try have c8b2 : (9223372036854775807 < (x3_1 ++ (⟨#[46]⟩ : ByteArray)).size + t109.size) = False := eq_false (Nat.not_lt.2 c8)
        (try (have c8b9 : (9223372036854775807 < x3_1.size + 1 + t109.size) = False := eq_false (fun hq_ => by have h_ := c8; simp only [ByteArray.size_append] at h_; have e0_ : (⟨#[46]⟩ : ByteArray).size = 1 := rfl; omega)))
        have H' := Aside0.mk H
        clear H
        have hcz9_0 : wr.cell? ⟨gb107, 0, none⟩ = some (.slice A0_0 l0_0.length c0_0) := (blk_cell BK107.out 0).trans rfl
        have hcz9_1 : wr.cell? ⟨gb107, 1, none⟩ = some (.bool a0_1) := (blk_cell BK107.out 1).trans rfl
        have hcz9_2 : wr.cell? ⟨gb107, 2, none⟩ = some (.string a0_2) := (blk_cell BK107.out 2).trans rfl
        have hcz9_3 : wr.cell? ⟨gb107, 3, none⟩ = some (.string a0_3) := (blk_cell BK107.out 3).trans rfl
        have hfz9_0 := blk_frozen BK107.out 0
        have hfz9_1 := blk_frozen BK107.out 1
        have hfz9_2 := blk_frozen BK107.out 2
        have hfz9_3 := blk_frozen BK107.out 3
        have p108 : 0 ≤ (x4_1 : Int) := of_decide_eq_true (by assumption)
        have q108 : x4_1 < (l0_0.length : Int) := of_decide_eq_true (by assumption)
        obtain ⟨ad108, e108, hx108_0⟩ := Kd.at_int HR0_0.out x4_1 p108 q108
        cases e108
        replace hx108_0 := (HB.out.cell (World.block_lt_of_cell? w _ hx108_0)).trans hx108_0
        replace p108 := eq_true p108
        replace q108 := eq_true q108
        go_wp2_with (first | ((with_reducible refine gate_callee (f := 46) rfl ?_); refine goesL_ (some 22) rfl rfl Tryd.func46 (by kernel_rfl) rfl #[.int .u64 (rd l0_0 x4_1)] rfl (by (try simp only [List.map_toArray, List.map_cons, List.map_nil]); first | done | rfl | (simp only [List.length_drop, List.length_take]; rfl)) ?_; (with_reducible refine (spec_VerUintText.calls k1 (rd l0_0 x4_1) t109 _ A7.out).mono ?_); rintro e w10 ⟨rfl, hb⟩; refine ⟨_, rfl, ?_⟩; have n0_ := Aside0.mk (blk_below (g := gb107) (o := .cells #[.slice (some ad108) l0_0.length c0_0, .bool a0_1, .string a0_2, .string a0_3] 25 (0, 0)) (by (with_reducible repeat (first | refine blk_drewN ?_ _ | refine blk_drew ?_ | refine blk_alloc ?_ _)); exact BK107.out) hb); have n1_ := Aside0.mk (below_step (by repeat (first | (with_reducible first | exact HB.out | apply below_alloc | apply pw_below_drewN | apply below_drew1 | refine below_set ?_ GE107.out) | exact HB.out)) hb); clear BK107; clear HB; have BK107 := n0_; have HB := n1_; clear n0_ n1_; (try clear hb); (try clear hb2); (try clear hk); (try clear hi)))
        go_roundg k1
        case measure => have := HK1.out; omega
        case rel => exact ⟨((x3_1 ++ (⟨#[46]⟩ : ByteArray)) ++ t109), (wrap64 (x4_1 + 1)), (by first | rfl | (simp; done) | (simp [*]; done)), (by first | rfl | (simp; done) | (simp [*]; done)), H', ⟨by have := HK1.out; omega⟩, ⟨by (with_reducible repeat (first | refine blk_drewN ?_ _ | refine blk_drew ?_ | refine blk_alloc ?_ _)); exact BK107.out⟩, ⟨by repeat (first | (with_reducible first | exact HB.out | apply below_alloc | apply pw_below_drewN | apply below_drew1 | refine below_set ?_ GE107.out) | exact HB.out)⟩⟩
       ·rw [if_neg c8] at H
        exact absurd H (by simp)
      ·rw [if_neg c6] at H
       exact absurd H (by simp)
     ·rw [if_neg c5] at H
      exact absurd H (by simp)
    ·rw [if_neg c4] at H
     have c4b0 : decide (0 < x4_1) = false := decide_eq_false c4
     clear c4
     by_cases c11 : 0 ≤ x4_1
     ·rw [if_pos c11] at H
      have c11b0 : decide (0 ≤ x4_1) = true := decide_eq_true c11
      clear c11
      replace H := Option.bind_eq_some_iff.mp H
      obtain ⟨t111, A120, H⟩ := H
      replace H : (if x3_1.size + t111.size ≤ 9223372036854775807 then (spec_Version_Text.l0 k1 (x3_1 ++ t111) (wrap64 (x4_1 + 1)) l0_0 a0_1 a0_2 a0_3) else (none)) = some r := H
      have A12 := Aside0.mk A120
      clear A120
      by_cases c13 : x3_1.size + t111.size ≤ 9223372036854775807
      ·rw [if_pos c13] at H
       have c13b0 := eq_true c13
       have c13b1 : decide (x3_1.size + t111.size ≤ 9223372036854775807) = true := decide_eq_true c13
       try have c13b2 : (9223372036854775807 < x3_1.size + t111.size) = False := eq_false (Nat.not_lt.2 c13)
       have H' := Aside0.mk H
       clear H
       have hcz14_0 : wr.cell? ⟨gb107, 0, none⟩ = some (.slice A0_0 l0_0.length c0_0) := (blk_cell BK107.out 0).trans rfl
       have hcz14_1 : wr.cell? ⟨gb107, 1, none⟩ = some (.bool a0_1) := (blk_cell BK107.out 1).trans rfl
       have hcz14_2 : wr.cell? ⟨gb107, 2, none⟩ = some (.string a0_2) := (blk_cell BK107.out 2).trans rfl
       have hcz14_3 : wr.cell? ⟨gb107, 3, none⟩ = some (.string a0_3) := (blk_cell BK107.out 3).trans rfl
       have hfz14_0 := blk_frozen BK107.out 0
       have hfz14_1 := blk_frozen BK107.out 1
       have hfz14_2 := blk_frozen BK107.out 2
       have hfz14_3 := blk_frozen BK107.out 3
       have p110 : 0 ≤ (x4_1 : Int) := of_decide_eq_true (by assumption)
       have q110 : x4_1 < (l0_0.length : Int) := of_decide_eq_true (by assumption)
       obtain ⟨ad110, e110, hx110_0⟩ := Kd.at_int HR0_0.out x4_1 p110 q110
       cases e110
       replace hx110_0 := (HB.out.cell (World.block_lt_of_cell? w _ hx110_0)).trans hx110_0
       replace p110 := eq_true p110
       replace q110 := eq_true q110
       go_wp2_with (first | ((with_reducible refine gate_callee (f := 46) rfl ?_); refine goesL_ (some 22) rfl rfl Tryd.func46 (by kernel_rfl) rfl #[.int .u64 (rd l0_0 x4_1)] rfl (by (try simp only [List.map_toArray, List.map_cons, List.map_nil]); first | done | rfl | (simp only [List.length_drop, List.length_take]; rfl)) ?_; (with_reducible refine (spec_VerUintText.calls k1 (rd l0_0 x4_1) t111 _ A12.out).mono ?_); rintro e w15 ⟨rfl, hb⟩; refine ⟨_, rfl, ?_⟩; have n0_ := Aside0.mk (blk_below (g := gb107) (o := .cells #[.slice (some ad110) l0_0.length c0_0, .bool a0_1, .string a0_2, .string a0_3] 25 (0, 0)) (by (with_reducible repeat (first | refine blk_drewN ?_ _ | refine blk_drew ?_ | refine blk_alloc ?_ _)); exact BK107.out) hb); have n1_ := Aside0.mk (below_step (by repeat (first | (with_reducible first | exact HB.out | apply below_alloc | apply pw_below_drewN | apply below_drew1 | refine below_set ?_ GE107.out) | exact HB.out)) hb); clear BK107; clear HB; have BK107 := n0_; have HB := n1_; clear n0_ n1_; (try clear hb); (try clear hb2); (try clear hk); (try clear hi)))
       go_roundg k1
       case measure => have := HK1.out; omega
       case rel => exact ⟨(x3_1 ++ t111), (wrap64 (x4_1 + 1)), (by first | rfl | (simp; done) | (simp [*]; done)), (by first | rfl | (simp; done) | (simp [*]; done)), H', ⟨by have := HK1.out; omega⟩, ⟨by (with_reducible repeat (first | refine blk_drewN ?_ _ | refine blk_drew ?_ | refine blk_alloc ?_ _)); exact BK107.out⟩, ⟨by repeat (first | (with_reducible first | exact HB.out | apply below_alloc | apply pw_below_drewN | apply below_drew1 | refine below_set ?_ GE107.out) | exact HB.out)⟩⟩
      ·rw [if_neg c13] at H
       exact absurd H (by simp)
     ·rw [if_neg c11] at H
      exact absurd H (by simp)
   ·rw [if_neg c3] at H
    have c3b0 : decide (x4_1 < (l0_0.length : Int)) = false := decide_eq_false c3
    clear c3
    by_cases c16 : a0_2.toList = ([] : List UInt8)
    ·rw [if_pos c16] at H
     have c16b0 : (a0_2.toList == ([] : List UInt8)) = true := beq_iff_eq.mpr c16
     have c16b1 : (a0_2.toList != ([] : List UInt8)) = false := bne_eq_false_iff_eq.mpr c16
     clear c16
     by_cases c17 : a0_3.toList = ([] : List UInt8)
     ·rw [if_pos c17] at H
      have c17b0 : (a0_3.toList == ([] : List UInt8)) = true := beq_iff_eq.mpr c17
      have c17b1 : (a0_3.toList != ([] : List UInt8)) = false := bne_eq_false_iff_eq.mpr c17
      clear c17
      obtain rfl := Option.some.inj H
      have hcz18_0 : wr.cell? ⟨gb107, 0, none⟩ = some (.slice A0_0 l0_0.length c0_0) := (blk_cell BK107.out 0).trans rfl
      have hcz18_1 : wr.cell? ⟨gb107, 1, none⟩ = some (.bool a0_1) := (blk_cell BK107.out 1).trans rfl
      have hcz18_2 : wr.cell? ⟨gb107, 2, none⟩ = some (.string a0_2) := (blk_cell BK107.out 2).trans rfl
      have hcz18_3 : wr.cell? ⟨gb107, 3, none⟩ = some (.string a0_3) := (blk_cell BK107.out 3).trans rfl
      have hfz18_0 := blk_frozen BK107.out 0
      have hfz18_1 := blk_frozen BK107.out 1
      have hfz18_2 := blk_frozen BK107.out 2
      have hfz18_3 := blk_frozen BK107.out 3
      go_wp2
      go_ret
      exact ⟨by first | rfl | (simp [errW_none, errW_some] <;> rfl) | (simp [*, errW_none, errW_some] <;> rfl), by repeat (first | (with_reducible first | exact HB.out | apply below_alloc | apply pw_below_drewN | apply below_drew1 | refine below_set ?_ GE107.out) | exact HB.out)⟩
     ·rw [if_neg c17] at H
      have c17b0 : (a0_3.toList == ([] : List UInt8)) = false := beq_eq_false_iff_ne.mpr c17
      have c17b1 : (a0_3.toList != ([] : List UInt8)) = true := bne_iff_ne.mpr c17
      by_cases c19 : x3_1.size + 1 ≤ 9223372036854775807
      ·rw [if_pos c19] at H
       have c19b0 := eq_true c19
       have c19b1 : decide (x3_1.size + 1 ≤ 9223372036854775807) = true := decide_eq_true c19
       try have c19b2 : (9223372036854775807 < x3_1.size + 1) = False := eq_false (Nat.not_lt.2 c19)
       by_cases c20 : (x3_1 ++ (⟨#[43]⟩ : ByteArray)).size + a0_3.size ≤ 9223372036854775807
       ·rw [if_pos c20] at H
        have c20b0 := eq_true c20
        have c20b1 : decide ((x3_1 ++ (⟨#[43]⟩ : ByteArray)).size + a0_3.size ≤ 9223372036854775807) = true := decide_eq_true c20
        try have c20b2 : (9223372036854775807 < (x3_1 ++ (⟨#[43]⟩ : ByteArray)).size + a0_3.size) = False := eq_false (Nat.not_lt.2 c20)
        (try (have c20b9 : (9223372036854775807 < x3_1.size + 1 + a0_3.size) = False := eq_false (fun hq_ => by have h_ := c20; simp only [ByteArray.size_append] at h_; have e0_ : (⟨#[43]⟩ : ByteArray).size = 1 := rfl; omega)))
        obtain rfl := Option.some.inj H
        have hcz21_0 : wr.cell? ⟨gb107, 0, none⟩ = some (.slice A0_0 l0_0.length c0_0) := (blk_cell BK107.out 0).trans rfl
        have hcz21_1 : wr.cell? ⟨gb107, 1, none⟩ = some (.bool a0_1) := (blk_cell BK107.out 1).trans rfl
        have hcz21_2 : wr.cell? ⟨gb107, 2, none⟩ = some (.string a0_2) := (blk_cell BK107.out 2).trans rfl
        have hcz21_3 : wr.cell? ⟨gb107, 3, none⟩ = some (.string a0_3) := (blk_cell BK107.out 3).trans rfl
        have hfz21_0 := blk_frozen BK107.out 0
        have hfz21_1 := blk_frozen BK107.out 1
        have hfz21_2 := blk_frozen BK107.out 2
        have hfz21_3 := blk_frozen BK107.out 3
        go_wp2
        go_ret
        exact ⟨by first | rfl | (simp [errW_none, errW_some] <;> rfl) | (simp [*, errW_none, errW_some] <;> rfl), by repeat (first | (with_reducible first | exact HB.out | apply below_alloc | apply pw_below_drewN | apply below_drew1 | refine below_set ?_ GE107.out) | exact HB.out)⟩
       ·rw [if_neg c20] at H
        exact absurd H (by simp)
      ·rw [if_neg c19] at H
       exact absurd H (by simp)
    ·rw [if_neg c16] at H
     have c16b0 : (a0_2.toList == ([] : List UInt8)) = false := beq_eq_false_iff_ne.mpr c16
     have c16b1 : (a0_2.toList != ([] : List UInt8)) = true := bne_iff_ne.mpr c16
     by_cases c22 : x3_1.size + 1 ≤ 9223372036854775807
     ·rw [if_pos c22] at H
      have c22b0 := eq_true c22
      have c22b1 : decide (x3_1.size + 1 ≤ 9223372036854775807) = true := decide_eq_true c22
      try have c22b2 : (9223372036854775807 < x3_1.size + 1) = False := eq_false (Nat.not_lt.2 c22)
      by_cases c23 : (x3_1 ++ (⟨#[45]⟩ : ByteArray)).size + a0_2.size ≤ 9223372036854775807
      ·rw [if_pos c23] at H
       have c23b0 := eq_true c23
       have c23b1 : decide ((x3_1 ++ (⟨#[45]⟩ : ByteArray)).size + a0_2.size ≤ 9223372036854775807) = true := decide_eq_true c23
       try have c23b2 : (9223372036854775807 < (x3_1 ++ (⟨#[45]⟩ : ByteArray)).size + a0_2.size) = False := eq_false (Nat.not_lt.2 c23)
       (try (have c23b9 : (9223372036854775807 < x3_1.size + 1 + a0_2.size) = False := eq_false (fun hq_ => by have h_ := c23; simp only [ByteArray.size_append] at h_; have e0_ : (⟨#[45]⟩ : ByteArray).size = 1 := rfl; omega)))
       by_cases c24 : a0_3.toList = ([] : List UInt8)
       ·rw [if_pos c24] at H
        have c24b0 : (a0_3.toList == ([] : List UInt8)) = true := beq_iff_eq.mpr c24
        have c24b1 : (a0_3.toList != ([] : List UInt8)) = false := bne_eq_false_iff_eq.mpr c24
        clear c24
        obtain rfl := Option.some.inj H
        have hcz25_0 : wr.cell? ⟨gb107, 0, none⟩ = some (.slice A0_0 l0_0.length c0_0) := (blk_cell BK107.out 0).trans rfl
        have hcz25_1 : wr.cell? ⟨gb107, 1, none⟩ = some (.bool a0_1) := (blk_cell BK107.out 1).trans rfl
        have hcz25_2 : wr.cell? ⟨gb107, 2, none⟩ = some (.string a0_2) := (blk_cell BK107.out 2).trans rfl
        have hcz25_3 : wr.cell? ⟨gb107, 3, none⟩ = some (.string a0_3) := (blk_cell BK107.out 3).trans rfl
        have hfz25_0 := blk_frozen BK107.out 0
        have hfz25_1 := blk_frozen BK107.out 1
        have hfz25_2 := blk_frozen BK107.out 2
        have hfz25_3 := blk_frozen BK107.out 3
        go_wp2
        go_ret
        exact ⟨by first | rfl | (simp [errW_none, errW_some] <;> rfl) | (simp [*, errW_none, errW_some] <;> rfl), by repeat (first | (with_reducible first | exact HB.out | apply below_alloc | apply pw_below_drewN | apply below_drew1 | refine below_set ?_ GE107.out) | exact HB.out)⟩
       ·rw [if_neg c24] at H
        have c24b0 : (a0_3.toList == ([] : List UInt8)) = false := beq_eq_false_iff_ne.mpr c24
        have c24b1 : (a0_3.toList != ([] : List UInt8)) = true := bne_iff_ne.mpr c24
        by_cases c26 : ((x3_1 ++ (⟨#[45]⟩ : ByteArray)) ++ a0_2).size + 1 ≤ 9223372036854775807
        ·rw [if_pos c26] at H
         have c26b0 := eq_true c26
         have c26b1 : decide (((x3_1 ++ (⟨#[45]⟩ : ByteArray)) ++ a0_2).size + 1 ≤ 9223372036854775807) = true := decide_eq_true c26
         try have c26b2 : (9223372036854775807 < ((x3_1 ++ (⟨#[45]⟩ : ByteArray)) ++ a0_2).size + 1) = False := eq_false (Nat.not_lt.2 c26)
         (try (have c26b9 : (9223372036854775807 < x3_1.size + 1 + a0_2.size + 1) = False := eq_false (fun hq_ => by have h_ := c26; simp only [ByteArray.size_append] at h_; have e0_ : (⟨#[45]⟩ : ByteArray).size = 1 := rfl; omega)))
         by_cases c27 : (((x3_1 ++ (⟨#[45]⟩ : ByteArray)) ++ a0_2) ++ (⟨#[43]⟩ : ByteArray)).size + a0_3.size ≤ 9223372036854775807
         ·rw [if_pos c27] at H
          have c27b0 := eq_true c27
          have c27b1 : decide ((((x3_1 ++ (⟨#[45]⟩ : ByteArray)) ++ a0_2) ++ (⟨#[43]⟩ : ByteArray)).size + a0_3.size ≤ 9223372036854775807) = true := decide_eq_true c27
          try have c27b2 : (9223372036854775807 < (((x3_1 ++ (⟨#[45]⟩ : ByteArray)) ++ a0_2) ++ (⟨#[43]⟩ : ByteArray)).size + a0_3.size) = False := eq_false (Nat.not_lt.2 c27)
          (try (have c27b9 : (9223372036854775807 < x3_1.size + 1 + a0_2.size + 1 + a0_3.size) = False := eq_false (fun hq_ => by have h_ := c27; simp only [ByteArray.size_append] at h_; have e0_ : (⟨#[43]⟩ : ByteArray).size = 1 := rfl; have e1_ : (⟨#[45]⟩ : ByteArray).size = 1 := rfl; omega)))
          obtain rfl := Option.some.inj H
          have hcz28_0 : wr.cell? ⟨gb107, 0, none⟩ = some (.slice A0_0 l0_0.length c0_0) := (blk_cell BK107.out 0).trans rfl
          have hcz28_1 : wr.cell? ⟨gb107, 1, none⟩ = some (.bool a0_1) := (blk_cell BK107.out 1).trans rfl
          have hcz28_2 : wr.cell? ⟨gb107, 2, none⟩ = some (.string a0_2) := (blk_cell BK107.out 2).trans rfl
          have hcz28_3 : wr.cell? ⟨gb107, 3, none⟩ = some (.string a0_3) := (blk_cell BK107.out 3).trans rfl
          have hfz28_0 := blk_frozen BK107.out 0
          have hfz28_1 := blk_frozen BK107.out 1
          have hfz28_2 := blk_frozen BK107.out 2
          have hfz28_3 := blk_frozen BK107.out 3
          go_wp2
          go_ret
          exact ⟨by first | rfl | (simp [errW_none, errW_some] <;> rfl) | (simp [*, errW_none, errW_some] <;> rfl), by repeat (first | (with_reducible first | exact HB.out | apply below_alloc | apply pw_below_drewN | apply below_drew1 | refine below_set ?_ GE107.out) | exact HB.out)⟩
         ·rw [if_neg c27] at H
          exact absurd H (by simp)
        ·rw [if_neg c26] at H
         exact absurd H (by simp)
      ·rw [if_neg c23] at H
       exact absurd H (by simp)
     ·rw [if_neg c22] at H
      exact absurd H (by simp)
def spec_Version_part.f (l0_0 : List Int) (a0_1 : Bool) (a0_2 : ByteArray) (a0_3 : ByteArray) (a1 : Int) : Option (Int) := if a1 < (l0_0.length : Int) then (if 0 ≤ a1 then (some (rd l0_0 a1)) else (none)) else (some 0)
set_option maxHeartbeats 8000000 in
set_option maxRecDepth 100000 in
theorem spec_Version_part.calls (A0_0 : Option Addr) (c0_0 : Nat) (l0_0 : List Int) (a0_1 : Bool) (a0_2 : ByteArray) (a0_3 : ByteArray) (a1 : Int) (r : Int) (w : World) (hr0_0 : Kd.C (Kd.int .u64) w A0_0 l0_0.length l0_0) (hc0_0 : l0_0.length ≤ c0_0) (h : spec_Version_part.f l0_0 a0_1 a0_2 a0_3 a1 = some r) :
  Calls Tryd.prog 31 #[.agg #[.slice A0_0 l0_0.length c0_0, .bool a0_1, .string a0_2, .string a0_3], .int .i64 a1] w fun e w' => e = .returned (.int .u64 r) ∧ Below w.heap.size w w' := by
 have hu25 := Tryd.underlying25
 have HR0_0 := Aside0.mk hr0_0
 have HC0_0 := Aside0.mk hc0_0
 clear hr0_0 hc0_0
 have HB := Aside0.mk (Below.refl w.heap.size w)
 have H : (if a1 < (l0_0.length : Int) then (if 0 ≤ a1 then (some (rd l0_0 a1)) else (none)) else (some 0)) = some r := h
 clear h
 by_cases c3 : a1 < (l0_0.length : Int)
 ·rw [if_pos c3] at H
  have c3b0 : decide (a1 < (l0_0.length : Int)) = true := decide_eq_true c3
  clear c3
  by_cases c4 : 0 ≤ a1
  ·rw [if_pos c4] at H
   have c4b0 : decide (0 ≤ a1) = true := decide_eq_true c4
   clear c4
   obtain rfl := Option.some.inj H
   go_enter Tryd.func31, Tryd.ntmps31
   go_wp2_with (first | ((with_reducible refine gate_dst (N := 2) rfl ?_); refine box_event ?hg (N := 2) ?hd (cs := #[.slice A0_0 l0_0.length c0_0, .bool a0_1, .string a0_2, .string a0_3]) (t := 25) ?hr ?_; (case hd => rfl); (case hg => rfl); (case hr => first | (go_simp; done) | (go_simp; rfl)); intro gb112 hg w5 hbox hb; have n0_ := Aside0.mk (below_step (by repeat (first | (with_reducible first | exact HB.out | apply below_alloc | apply pw_below_drewN | apply below_drew1) | exact HB.out)) hb); have n1_ := Aside0.mk (hbox); have n2_ := Aside0.mk ((by rw [hg]; exact (below_size (by repeat (first | (with_reducible first | exact HB.out | apply below_alloc | apply pw_below_drewN | apply below_drew1) | exact HB.out))) : w.heap.size ≤ gb112)); have n3_ := Aside0.mk ((by rw [hg]; exact (below_size (by repeat (first | (with_reducible first | exact HB.out | apply below_alloc | apply pw_below_drewN | apply below_drew1) | exact HB.out))) : w.heap.size ≤ gb112)); clear HB; have HB := n0_; have BK112 := n1_; have GW112 := n2_; have GE112 := n3_; clear n0_ n1_ n2_ n3_; clear hb hbox hg; have hcz6_0 : w5.cell? ⟨gb112, 0, none⟩ = some (.slice A0_0 l0_0.length c0_0) := (blk_cell BK112.out 0).trans rfl; have hcz6_1 : w5.cell? ⟨gb112, 1, none⟩ = some (.bool a0_1) := (blk_cell BK112.out 1).trans rfl; have hcz6_2 : w5.cell? ⟨gb112, 2, none⟩ = some (.string a0_2) := (blk_cell BK112.out 2).trans rfl; have hcz6_3 : w5.cell? ⟨gb112, 3, none⟩ = some (.string a0_3) := (blk_cell BK112.out 3).trans rfl; have hfz6_0 := blk_frozen BK112.out 0; have hfz6_1 := blk_frozen BK112.out 1; have hfz6_2 := blk_frozen BK112.out 2; have hfz6_3 := blk_frozen BK112.out 3; have p113 : 0 ≤ (a1 : Int) := of_decide_eq_true (by assumption); have q113 : a1 < (l0_0.length : Int) := of_decide_eq_true (by assumption); obtain ⟨ad113, e113, hx113_0⟩ := Kd.at_int HR0_0.out a1 p113 q113; cases e113; replace hx113_0 := (HB.out.cell (World.block_lt_of_cell? w _ hx113_0)).trans hx113_0; replace p113 := eq_true p113; replace q113 := eq_true q113))
   go_ret
   exact ⟨by first | rfl | (simp [errW_none, errW_some] <;> rfl) | (simp [*, errW_none, errW_some] <;> rfl), by repeat (first | (with_reducible first | exact HB.out | apply below_alloc | apply pw_below_drewN | apply below_drew1 | refine below_set ?_ GE112.out) | exact HB.out)⟩
  ·rw [if_neg c4] at H
   exact absurd H (by simp)
 ·rw [if_neg c3] at H
  have c3b0 : decide (a1 < (l0_0.length : Int)) = false := decide_eq_false c3
  clear c3
  obtain rfl := Option.some.inj H
  go_enter Tryd.func31, Tryd.ntmps31
  go_wp2_with (first | ((with_reducible refine gate_dst (N := 2) rfl ?_); refine box_event ?hg (N := 2) ?hd (cs := #[.slice A0_0 l0_0.length c0_0, .bool a0_1, .string a0_2, .string a0_3]) (t := 25) ?hr ?_; (case hd => rfl); (case hg => rfl); (case hr => first | (go_simp; done) | (go_simp; rfl)); intro gb112 hg w7 hbox hb; have n0_ := Aside0.mk (below_step (by repeat (first | (with_reducible first | exact HB.out | apply below_alloc | apply pw_below_drewN | apply below_drew1) | exact HB.out)) hb); have n1_ := Aside0.mk (hbox); have n2_ := Aside0.mk ((by rw [hg]; exact (below_size (by repeat (first | (with_reducible first | exact HB.out | apply below_alloc | apply pw_below_drewN | apply below_drew1) | exact HB.out))) : w.heap.size ≤ gb112)); have n3_ := Aside0.mk ((by rw [hg]; exact (below_size (by repeat (first | (with_reducible first | exact HB.out | apply below_alloc | apply pw_below_drewN | apply below_drew1) | exact HB.out))) : w.heap.size ≤ gb112)); clear HB; have HB := n0_; have BK112 := n1_; have GW112 := n2_; have GE112 := n3_; clear n0_ n1_ n2_ n3_; clear hb hbox hg; have hcz8_0 : w7.cell? ⟨gb112, 0, none⟩ = some (.slice A0_0 l0_0.length c0_0) := (blk_cell BK112.out 0).trans rfl; have hcz8_1 : w7.cell? ⟨gb112, 1, none⟩ = some (.bool a0_1) := (blk_cell BK112.out 1).trans rfl; have hcz8_2 : w7.cell? ⟨gb112, 2, none⟩ = some (.string a0_2) := (blk_cell BK112.out 2).trans rfl; have hcz8_3 : w7.cell? ⟨gb112, 3, none⟩ = some (.string a0_3) := (blk_cell BK112.out 3).trans rfl; have hfz8_0 := blk_frozen BK112.out 0; have hfz8_1 := blk_frozen BK112.out 1; have hfz8_2 := blk_frozen BK112.out 2; have hfz8_3 := blk_frozen BK112.out 3))
  go_ret
  exact ⟨by first | rfl | (simp [errW_none, errW_some] <;> rfl) | (simp [*, errW_none, errW_some] <;> rfl), by repeat (first | (with_reducible first | exact HB.out | apply below_alloc | apply pw_below_drewN | apply below_drew1 | refine below_set ?_ GE112.out) | exact HB.out)⟩
end Go.Proofs.YtmfgkidppchobaaDoor.XFnVersionMinors

