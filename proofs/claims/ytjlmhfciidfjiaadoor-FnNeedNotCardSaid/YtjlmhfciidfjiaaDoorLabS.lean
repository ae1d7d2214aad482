/- Sets of labels out of pairs: labelSet walked; the bound on what comes in. -/
import Derived.Test.YtjlmhfciidfjiaaDoorProg
import Derived.Test.YtjlmhfciidfjiaaDoorMapGen
import Derived.Test.YtjlmhfciidfjiaaDoorEv
import Derived.Test.YtjlmhfciidfjiaaDoorXFnNeedNotx4
set_option linter.unusedSimpArgs false
set_option linter.unusedVariables false
namespace Go.Proofs.YtjlmhfciidfjiaaDoor.LabS
open Go.RowKit Go.Maps Go.Proofs.YtjlmhfciidfjiaaDoorW.PrintWords Go.Proofs.YtjlmhfciidfjiaaDoor.EvL Go.Proofs.YtjlmhfciidfjiaaDoor.SetGen Go.Proofs.YtjlmhfciidfjiaaDoor.MapGen Go.Proofs.YtjlmhfciidfjiaaDoor.XFnNeedNot
theorem meas {n k : Nat} (h : k + 1 ≤ n) : n - (intOf (.int .i64 ((k + 1 : Nat) : Int))).toNat < n - (intOf (.int .i64 (k : Int))).toNat := by
  simp [intOf]; omega
theorem kstr : Tryd.prog.underlying 9 = some .string := Tryd.underlying9
theorem zeroS (w : World) : (zeroValue 9).run Tryd.prog w = .ok (.string E0) w := by kernel_rfl
abbrev M (w : World) (b N : Nat) (f : ByteArray → Option ByteArray) : Prop := Mp Tryd.prog 9 w b N f
abbrev MR (w : World) (b r N : Nat) (f : ByteArray → Option ByteArray) (done : List ByteArray) : Prop := Mr Tryd.prog 9 w b r N f done
theorem M_below {w w' : World} {b N : Nat} {f : ByteArray → Option ByteArray} (h : M w b N f) (hb : Below w.heap.size w w') : M w' b N f := h.kept (grown_of_below hb none) (by simp)
/-- A set of labels, of pairs: of one key the last pair counts. -/
def fn (l : List S35) : ByteArray → Option ByteArray := l.foldl (fun g p q => if q = p.f0 then some p.f1 else g q) (fun _ => none)
theorem fn_snoc (l : List S35) (p : S35) : fn (l ++ [p]) = fun q => if q = p.f0 then some p.f1 else fn l q := by unfold fn; rw [List.foldl_append]; rfl
theorem at_of {l : List S35} {k : Nat} {x : S35} (h : rd_T35 l (k : Int) = x) (hk : k < l.length) : l[k]? = some x := by
  rw [← h]
  simp [rd_T35, hk]
theorem take_succ {l : List S35} {k : Nat} {x : S35} (h : l[k]? = some x) : l.take (k + 1) = l.take k ++ [x] := by
  rw [List.take_add_one, h]; rfl

set_option maxHeartbeats 600000 in
set_option maxRecDepth 100000 in
theorem labelSet_calls (A : Option Addr) (l : List S35) (c : Nat) (w : World) (hr : k35.C w A l.length l) (hl : l.length ≤ 4294967296) (hok : ∀ p ∈ l, p.f0.size ≤ maxLen ∧ p.f1.size ≤ maxLen) :
    Calls Tryd.prog 15 #[.slice A l.length c] w fun e w' => e = .returned (.map (some w.heap.size)) ∧ M w' w.heap.size l.length (fn l) ∧ Below w.heap.size w w' := by
  have hlx := Aside0.mk hl
  have hokx := Aside0.mk hok
  have hu35 := Tryd.underlying35
  clear hok
  go_enter Tryd.func15, Tryd.ntmps15
  go_wp2_with (first
    | (refine MapGen.wp_make (k := 9) _ rfl 45 rfl ?_; intro w1 hMw1 hgw1 hzw1; have hMw1 := Aside0.mk hMw1; have hgw1 := Aside0.mk hgw1; have hzw1 := Aside0.mk hzw1)
    | go_in)
  go_loopw [9] (fun i wr => ∃ k : Nat, k ≤ l.length ∧ i = .int .i64 k ∧ M wr w.heap.size k (fn (l.take k)) ∧ Below w.heap.size w wr) (fun i _ => l.length - (intOf i).toNat)
  case atStart => exact ⟨0, Nat.zero_le _, rfl, hMw1.out, Below.grown (Below.refl _ _) hgw1.out (Nat.le_refl _) (fun j hj => by cases hj)⟩
  case round =>
    obtain ⟨k, hk, rfl, hMk, hB⟩ := hrel
    have hrk := Kd.C_below hr hB
    by_cases c3 : (k : Int) < (l.length : Int)
    · obtain ⟨x, hx⟩ : ∃ x, rd_T35 l (k : Int) = x := ⟨_, rfl⟩
      have hxl : l[k]? = some x := at_of hx (by omega)
      have hxm := hokx.out x (List.mem_of_getElem? hxl)
      have p := Int.natCast_nonneg k
      obtain ⟨ad, e1, hcell, hcell2⟩ := at_T35 hrk (k : Int) p c3
      rw [hx, Int.toNat_natCast] at hcell hcell2
      cases e1
      have hxl := Aside0.mk hxl
      have c3b := decide_eq_true c3
      have hk2 := Aside0.mk (show k + 1 ≤ l.length by omega)
      obtain ⟨s, v, rfl⟩ : ∃ s v, x = ⟨s, v⟩ := ⟨x.f0, x.f1, rfl⟩
      have hxm := Aside0.mk hxm
      replace p := eq_true p
      replace c3 := eq_true c3
      have hMx := Aside0.mk (hMk.kept (World.grownBy_alloc wr (.cells #[.string s, .string v] 35) none) (by simp))
      have hBx := Aside0.mk hB
      clear hMk hB hrk hx
      go_wp2_with (first
        | (at_mapUpdate; refine MapGen.wp_put _ kstr rfl _ _ _ 45 rfl Tryd.underlying45 w.heap.size k (fn (l.take k)) rfl hMx.out (by have := hk2.out; have := hlx.out; unfold maxLen; omega) s v hxm.out.1 hxm.out.2 rfl rfl ?_; intro w3 hM3 hg3; have hM3 := Aside0.mk hM3; have hg3 := Aside0.mk hg3)
        | go_in)
      have hgg := alloc_then hg3.out
      go_roundw
      case measure => have := hk2.out; first | exact meas this | (rw [show (k : Int) + 1 = ((k + 1 : Nat) : Int) from rfl]; exact meas this)
      case rel =>
        refine ⟨k + 1, hk2.out, by go_num, ?_, Below.grown hBx.out hgg hBx.out.size (fun j hj => by cases hj; exact Nat.le_refl _)⟩
        rw [take_succ hxl.out, fn_snoc]
        exact hM3.out
    · have c3b := decide_eq_false c3
      obtain rfl : k = l.length := by omega
      rw [List.take_length] at hMk
      have hMx := Aside0.mk hMk
      have hBx := Aside0.mk hB
      clear hMk hB hrk
      go_wp2
      go_ret
      exact ⟨rfl, hMx.out, hBx.out⟩

theorem fits2_l0 (l : List S35) (hl : l.length ≤ 2147483647) (n : Nat) : ∀ i : Nat, i ≤ l.length → l.length - i = n → ∃ b, Ev (fun k => laws_zzFits2.l0 k l (l.length : Int) i) b := by
  induction n with
  | zero =>
    intro i hi hn
    exact ⟨true, Ev.step (fun k => laws_zzFits2.l0.eq_2 ..) (ifn (by omega) (Ev.now _))⟩
  | succ n ih =>
    intro i hi hn
    obtain ⟨b, hb⟩ := ih (i + 1) (by omega) (by omega)
    obtain ⟨t, ht⟩ : ∃ t, laws_zzFits3.f (rd_T35 l i).f0 (rd_T35 l i).f1 = some t := by
      unfold laws_zzFits3.f
      repeat' split
      all_goals exact ⟨_, rfl⟩
    by_cases h : t = true
    · refine ⟨b, Ev.step (fun k => laws_zzFits2.l0.eq_2 ..) (ifp (by omega) (ifp (by omega) (ifp (by omega) (cb ht (ifp h ?_)))))⟩
      rw [w64 (x := (i : Int) + 1) (by omega) (by omega)]
      exact hb
    · exact ⟨false, Ev.step (fun k => laws_zzFits2.l0.eq_2 ..) (ifp (by omega) (ifp (by omega) (ifp (by omega) (cb ht (ifn h (Ev.now _))))))⟩
theorem fits2_ev (l : List S35) : ∃ k b, laws_zzFits2.f k l = some b ∧ (b = true → l.length ≤ 2147483647) := by
  by_cases h : (l.length : Int) > 2147483647
  · exact ⟨0, false, by unfold laws_zzFits2.f; rw [if_pos h], fun e => by cases e⟩
  · obtain ⟨b, hb⟩ := fits2_l0 l (by omega) _ 0 (by omega) rfl
    obtain ⟨k, hk⟩ := hb.rounds
    exact ⟨k, b, by unfold laws_zzFits2.f; rw [if_neg h]; exact hk, fun _ => by omega⟩
end Go.Proofs.YtjlmhfciidfjiaaDoor.LabS
