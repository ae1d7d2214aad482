/- Sets of fields out of pairs: fieldSet walked; Get. -/
import Derived.Test.YtccdnmachpepcaaDoorProg
import Derived.Test.YtccdnmachpepcaaDoorMapGen
import Derived.Test.YtccdnmachpepcaaDoorEv
import Derived.Test.YtccdnmachpepcaaDoorWMore
import Derived.LoopTactic
import Derived.Outline
set_option linter.unusedSimpArgs false
set_option linter.unusedVariables false
namespace Go.Proofs.YtccdnmachpepcaaDoor.FsL
open Go.RowKit Go.Maps Go.Proofs.YtccdnmachpepcaaDoorW.PrintWords Go.Proofs.YtccdnmachpepcaaDoorW.PrintLast Go.Proofs.YtccdnmachpepcaaDoor.EvL Go.Proofs.YtccdnmachpepcaaDoor.SetGen Go.Proofs.YtccdnmachpepcaaDoor.MapGen
structure Pr where
  f0 : ByteArray
  f1 : ByteArray
def zp : Pr := ⟨(⟨#[]⟩ : ByteArray), (⟨#[]⟩ : ByteArray)⟩
def kp : Kd Pr := Kd.iso (Kd.pair Kd.string Kd.string) (fun x : Pr => (x.f0, x.f1))
theorem kp_open {w : World} {x : Pr} {cs : List Value} (h : kp.K w x cs) : cs = [.string x.f0, .string x.f1] := by
  obtain ⟨_, _, rfl, rfl, rfl⟩ := h
  exact rfl
def rdp (xs : List Pr) (i : Int) : Pr := xs.getD i.toNat zp
theorem at_kp {w : World} {A : Option Addr} {n : Nat} {xs : List Pr} (h : Kd.C kp w A n xs) (i : Int) (h0 : 0 ≤ i) (h1 : i < n) : ∃ ad , A = some ad ∧ w.cell? (ad.add (i.toNat * 2)) = some (.string (rdp xs i).f0) ∧ w.cell? ⟨(ad.add (i.toNat * 2)).block, (ad.add (i.toNat * 2)).off + 1, none⟩ = some (.string (rdp xs i).f1) := by
  obtain ⟨ad, c, e, _, hK, hc0⟩ := Kd.C_get h zp i h0 h1
  have hc : ∀ j u, c[j]? = some u → w.cell? (ad.add (i.toNat * 2 + j)) = some u := hc0
  obtain rfl := kp_open hK
  exact ⟨ad, e, hc 0 _ rfl, by rw [← add_field _ _ 1 (by omega)]; exact hc 1 _ rfl⟩
theorem meas {n k : Nat} (h : k + 1 ≤ n) : n - (intOf (.int .i64 ((k + 1 : Nat) : Int))).toNat < n - (intOf (.int .i64 (k : Int))).toNat := by
  simp [intOf]; omega
theorem kstr : Tryd.prog.underlying 9 = some .string := Tryd.underlying9
theorem zeroS (w : World) : (zeroValue 9).run Tryd.prog w = .ok (.string E0) w := by kernel_rfl
abbrev M (w : World) (b N : Nat) (f : ByteArray → Option ByteArray) : Prop := Mp Tryd.prog 9 w b N f
abbrev MR (w : World) (b r N : Nat) (f : ByteArray → Option ByteArray) (done : List ByteArray) : Prop := Mr Tryd.prog 9 w b r N f done
theorem M_below {w w' : World} {b N : Nat} {f : ByteArray → Option ByteArray} (h : M w b N f) (hb : Below w.heap.size w w') : M w' b N f := h.kept (grown_of_below hb none) (by simp)
/-- A set of labels, of pairs: of one key the last pair counts. -/
def fn (l : List Pr) : ByteArray → Option ByteArray := l.foldl (fun g p q => if q = p.f0 then some p.f1 else g q) (fun _ => none)
theorem fn_snoc (l : List Pr) (p : Pr) : fn (l ++ [p]) = fun q => if q = p.f0 then some p.f1 else fn l q := by unfold fn; rw [List.foldl_append]; rfl
theorem at_of {l : List Pr} {k : Nat} {x : Pr} (h : rdp l (k : Int) = x) (hk : k < l.length) : l[k]? = some x := by
  rw [← h]
  simp [rdp, hk]
theorem take_succ {l : List Pr} {k : Nat} {x : Pr} (h : l[k]? = some x) : l.take (k + 1) = l.take k ++ [x] := by
  rw [List.take_add_one, h]; rfl

set_option maxHeartbeats 600000 in
set_option maxRecDepth 100000 in
theorem fieldSet_calls (A : Option Addr) (l : List Pr) (c : Nat) (w : World) (hr : kp.C w A l.length l) (hl : l.length ≤ 4294967296) (hok : ∀ p ∈ l, p.f0.size ≤ maxLen ∧ p.f1.size ≤ maxLen) :
    Calls Tryd.prog 20 #[.slice A l.length c] w fun e w' => e = .returned (.map (some w.heap.size)) ∧ M w' w.heap.size l.length (fn l) ∧ Below w.heap.size w w' := by
  have hlx := Aside0.mk hl
  have hokx := Aside0.mk hok
  have hu40 := Tryd.underlying40
  clear hok
  go_enter Tryd.func20, Tryd.ntmps20
  go_wp2_with (first
    | (refine MapGen.wp_make (k := 9) _ rfl 59 rfl ?_; intro w1 hMw1 hgw1 hzw1; have hMw1 := Aside0.mk hMw1; have hgw1 := Aside0.mk hgw1; have hzw1 := Aside0.mk hzw1)
    | go_in)
  go_loopw [9] (fun i wr => ∃ k : Nat, k ≤ l.length ∧ i = .int .i64 k ∧ M wr w.heap.size k (fn (l.take k)) ∧ Below w.heap.size w wr) (fun i _ => l.length - (intOf i).toNat)
  case atStart => exact ⟨0, Nat.zero_le _, rfl, hMw1.out, Below.grown (Below.refl _ _) hgw1.out (Nat.le_refl _) (fun j hj => by cases hj)⟩
  case round =>
    obtain ⟨k, hk, rfl, hMk, hB⟩ := hrel
    have hrk := Kd.C_below hr hB
    by_cases c3 : (k : Int) < (l.length : Int)
    · obtain ⟨x, hx⟩ : ∃ x, rdp l (k : Int) = x := ⟨_, rfl⟩
      have hxl : l[k]? = some x := at_of hx (by omega)
      have hxm := hokx.out x (List.mem_of_getElem? hxl)
      have p := Int.natCast_nonneg k
      obtain ⟨ad, e1, hcell, hcell2⟩ := at_kp hrk (k : Int) p c3
      rw [hx, Int.toNat_natCast] at hcell hcell2
      cases e1
      have hxl := Aside0.mk hxl
      have c3b := decide_eq_true c3
      have hk2 := Aside0.mk (show k + 1 ≤ l.length by omega)
      obtain ⟨s, v, rfl⟩ : ∃ s v, x = ⟨s, v⟩ := ⟨x.f0, x.f1, rfl⟩
      have hxm := Aside0.mk hxm
      replace p := eq_true p
      replace c3 := eq_true c3
      have hMx := Aside0.mk (hMk.kept (World.grownBy_alloc wr (.cells #[.string s, .string v] 40) none) (by simp))
      have hBx := Aside0.mk hB
      clear hMk hB hrk hx
      go_wp2_with (first
        | (at_mapUpdate; refine MapGen.wp_put _ kstr rfl _ _ _ 59 rfl Tryd.underlying59 w.heap.size k (fn (l.take k)) rfl hMx.out (by have := hk2.out; have := hlx.out; unfold maxLen; omega) s v hxm.out.1 hxm.out.2 rfl rfl ?_; intro w3 hM3 hg3; have hM3 := Aside0.mk hM3; have hg3 := Aside0.mk hg3)
        | go_in)
      have hgg := alloc_then hg3.out
      go_roundw
      case measure => have := hk2.out; first | exact meas this | (rw [show (k : Int) + 1 = ((k + 1 : Nat) : Int) from rfl]; exact meas this)
      case rel =>
        refine ⟨k + 1, hk2.out, by go_num, ?_, Below.grown hBx.out hgg hBx.out.size (fun j hj => by cases hj; exact Nat.le_refl _)⟩
        rw [take_succ hxl.out, fn_snoc]
        exact hM3.out
    · have c3b := decide_eq_false c3
      obtain rfl : k = l.length := by omega
      rw [List.take_length] at hMk
      have hMx := Aside0.mk hMk
      have hBx := Aside0.mk hB
      clear hMk hB hrk
      go_wp2
      go_ret
      exact ⟨rfl, hMx.out, hBx.out⟩
set_option maxHeartbeats 1000000 in
theorem get_calls (b N : Nat) (f : ByteArray → Option ByteArray) (key : ByteArray) (hk : key.size ≤ maxLen) (w : World) (hM : M w b N f) :
    Calls Tryd.prog 122 #[.map (some b), .string key] w fun e w' => e = .returned (.string ((f key).getD E0)) ∧ w' = w := by
  replace hM := Aside0.mk hM
  go_enter Tryd.func122, Tryd.ntmps122
  go_wp2_with (first
    | (at_lookup; refine MapGen.wp_look _ kstr rfl _ _ 59 rfl Tryd.underlying59 (zeroS _) b N f rfl hM.out key hk rfl ?_)
    | go_in)
  go_ret
  exact ⟨rfl, rfl⟩
end Go.Proofs.YtccdnmachpepcaaDoor.FsL
