/- FnNeedNot: the law's function walked. -/
import Derived.Test.YtjlmhfciidfjiaaDoorNdZ
import Derived.BigRegion
set_option linter.unusedSimpArgs false
set_option linter.unusedVariables false
namespace Go.Proofs.YtjlmhfciidfjiaaDoor.NdK
open Go.RowKit Go.Maps Go.Proofs.YtjlmhfciidfjiaaDoorW.PrintWords Go.Proofs.YtjlmhfciidfjiaaDoorW.PrintLast Go.Proofs.YtjlmhfciidfjiaaDoor.EvL Go.Proofs.YtjlmhfciidfjiaaDoor.SetGen Go.Proofs.YtjlmhfciidfjiaaDoor.MapGen Go.Proofs.YtjlmhfciidfjiaaDoor.XFnNeedNot Go.Proofs.YtjlmhfciidfjiaaDoor.LabS Go.Proofs.YtjlmhfciidfjiaaDoor.NdR Go.Proofs.YtjlmhfciidfjiaaDoor.NdP Go.Proofs.YtjlmhfciidfjiaaDoor.NdZ
def MY (op key : ByteArray) (A : Option Addr) (c : Nat) (l : List ByteArray) (w : World) (b : Bool) : Prop := ∀ W, Below w.heap.size w W →
    Calls Tryd.prog 6 #[.agg #[.string key, .string op, .slice A l.length c]] W fun e w' => e = .returned (.bool b) ∧ Below W.heap.size W w'
def NM (op key : ByteArray) (A : Option Addr) (c : Nat) (l : List ByteArray) (As : Option Addr) (cs : Nat) (ls : List S35) (w : World) (r : Bool) : Prop := ∀ W, Below w.heap.size w W →
    Calls Tryd.prog 7 #[.agg #[.string key, .string op, .slice A l.length c], .slice As ls.length cs] W fun e w' => e = .returned (.tuple #[.bool r, .bool false]) ∧ Below W.heap.size W w'
set_option maxHeartbeats 2000000 in
set_option maxRecDepth 100000 in
theorem law_big (key : ByteArray) (hk : ¬ key.size ≤ 2147483647) (hm : key.size ≤ maxLen) (A : Option Addr) (c : Nat) (l : List ByteArray) (As : Option Addr) (cs : Nat) (ls : List S35) (w : World) :
    Calls Tryd.prog 3 #[.string key, .slice A l.length c, .slice As ls.length cs] w fun e w' => e = .returned (.bool true) ∧ Below w.heap.size w w' := by
  unfold maxLen at hm
  have h1 : decide ((key.size : Int) > 2147483647) = true := decide_eq_true (by omega)
  have h2 : decide (2147483647 < key.size) = true := decide_eq_true (by omega)
  go_enter Tryd.func3, Tryd.ntmps3
  go_wp2_with fail
  go_ret
  exact ⟨rfl, Below.refl _ _⟩
set_option maxHeartbeats 2000000 in
set_option maxRecDepth 100000 in
theorem law_fits (key : ByteArray) (hk : key.size ≤ 2147483647) (A : Option Addr) (c : Nat) (l : List ByteArray) (As : Option Addr) (cs : Nat) (ls : List S35) (w : World)
    (hr : Kd.string.C w A l.length l) (hc : l.length ≤ c) (hrs : k35.C w As ls.length ls) (hcs : ls.length ≤ cs) (k4 k2 : Nat) (b4 b2 : Bool) (h4 : laws_zzFits4.f k4 l = some b4) (h2 : laws_zzFits2.f k2 ls = some b2) (hb : (b4 && b2) = false) :
    Calls Tryd.prog 3 #[.string key, .slice A l.length c, .slice As ls.length cs] w fun e w' => e = .returned (.bool true) ∧ Below w.heap.size w w' := by
  have f4 := Aside0.mk (fun W (hb : Below w.heap.size w W) => (laws_zzFits4.calls k4 A c l b4 W (Kd.C_below hr hb) hc h4).mono (fun _ _ h => (⟨h.1, h.2.below⟩ : _ ∧ Below W.heap.size W _)))
  have f2 := Aside0.mk (fun W (hb : Below w.heap.size w W) => laws_zzFits2.calls k2 As cs ls b2 W (Kd.C_below hrs hb) hcs h2)
  have hX := Aside0.mk (Below.refl w.heap.size w)
  clear hr hrs hc hcs h4 h2
  cases b4 with
  | false =>
    clear hb
    go_enter Tryd.func3, Tryd.ntmps3
    go_wp2_with fail
    refine (f4.out _ hX.out).mono ?_
    rintro e w1 ⟨rfl, hb⟩
    replace hX := Aside0.mk (below_then hX.out hX.out.size hb)
    clear hb
    go_wp2_with fail
    go_ret
    exact ⟨rfl, hX.out⟩
  | true =>
    obtain rfl : b2 = false := hb
    go_enter Tryd.func3, Tryd.ntmps3
    go_wp2_with fail
    refine (f4.out _ hX.out).mono ?_
    rintro e w1 ⟨rfl, hb⟩
    replace hX := Aside0.mk (below_then hX.out hX.out.size hb)
    clear hb
    go_wp2_with fail
    refine (f2.out _ hX.out).mono ?_
    rintro e w1 ⟨rfl, hb⟩
    replace hX := Aside0.mk (below_then hX.out hX.out.size hb)
    clear hb
    go_wp2_with fail
    go_ret
    exact ⟨rfl, hX.out⟩
def Pb (w : World) (b : Nat) : Prop := w.heap[b]? = some (.cells #[.string o_in, .string o_notin, .string o_eq, .string o_ne, .string o_ex, .string o_nx, .string o_gt, .string o_lt] 26 (0, 0))
theorem Pb.below {w w1 : World} {b : Nat} (h : Pb w b) (hb : Below w.heap.size w w1) : Pb w1 b := (hb.block b (blk_lt h)).trans h
theorem bcell {W w1 : World} (hb : Below W.heap.size W w1) : (∀ b o, b < W.heap.size → w1.cell? ⟨b, o, none⟩ = W.cell? ⟨b, o, none⟩) ∧ (∀ b o, b < W.heap.size → w1.frozen? ⟨b, o, none⟩ = W.frozen? ⟨b, o, none⟩) :=
  ⟨fun b o h => hb.cell (p := ⟨b, o, none⟩) h, fun b o h => hb.frozen (p := ⟨b, o, none⟩) h⟩
theorem bt0 {w W v : World} (h : Below w.heap.size w W) (hb : Below W.heap.size W v) : Below w.heap.size w v := below_then h h.size hb
set_option maxHeartbeats 8000000 in
set_option maxRecDepth 100000 in
theorem law_c (key : ByteArray) (hk : key.size ≤ 2147483647) (A : Option Addr) (c : Nat) (l : List ByteArray) (As : Option Addr) (cs : Nat) (ls : List S35) (w : World)
    (hr : Kd.string.C w A l.length l) (hc : l.length ≤ c) (hrs : k35.C w As ls.length ls) (hcs : ls.length ≤ cs) (k4 k2 : Nat) (h4 : laws_zzFits4.f k4 l = some true) (h2 : laws_zzFits2.f k2 ls = some true)
    (b01 b02 r01 r02 : Bool) (m01 : MY o_in key A c l w b01) (m02 : MY o_notin key A c l w b02) (n01 : b01 = true → NM o_in key A c l As cs ls w r01) (n02 : b02 = true → NM o_notin key A c l As cs ls w r02) (q0 : r02 = !r01)
    (b11 b12 r11 r12 : Bool) (m11 : MY o_eq key A c l w b11) (m12 : MY o_ne key A c l w b12) (n11 : b11 = true → NM o_eq key A c l As cs ls w r11) (n12 : b12 = true → NM o_ne key A c l As cs ls w r12) (q1 : r12 = !r11)
    (b21 b22 r21 r22 : Bool) (m21 : MY o_ex key A c l w b21) (m22 : MY o_nx key A c l w b22) (n21 : b21 = true → NM o_ex key A c l As cs ls w r21) (n22 : b22 = true → NM o_nx key A c l As cs ls w r22) (q2 : r22 = !r21)
    (b31 b32 r31 r32 : Bool) (m31 : MY o_gt key A c l w b31) (m32 : MY o_lt key A c l w b32) (n31 : b31 = true → NM o_gt key A c l As cs ls w r31) (n32 : b32 = true → NM o_lt key A c l As cs ls w r32) (q3 : (r31 && r32) = false)
    (b4 r4 : Bool) (m4 : MY o_eq key A c l w b4) (n41 : b4 = true → NM o_eq key A c l As cs ls w r4) (n42 : b4 = true → NM o_eq2 key A c l As cs ls w r4) (n43 : b4 = true → NM o_in key A c l As cs ls w r4) :
    Calls Tryd.prog 3 #[.string key, .slice A l.length c, .slice As ls.length cs] w fun e w' => e = .returned (.bool true) ∧ Below w.heap.size w w' := by
  have f4 := Aside0.mk (fun W (hb : Below w.heap.size w W) => (laws_zzFits4.calls k4 A c l true W (Kd.C_below hr hb) hc h4).mono (fun _ _ h => (⟨h.1, h.2.below⟩ : _ ∧ Below W.heap.size W _)))
  have f2 := Aside0.mk (fun W (hb : Below w.heap.size w W) => laws_zzFits2.calls k2 As cs ls true W (Kd.C_below hrs hb) hcs h2)
  have hX := Aside0.mk (Below.refl w.heap.size w)
  clear hr hrs hc hcs h4 h2
  replace m01 := Aside0.mk m01
  replace n01 := Aside0.mk n01
  replace m02 := Aside0.mk m02
  replace n02 := Aside0.mk n02
  replace q0 := Aside0.mk q0
  replace m11 := Aside0.mk m11
  replace n11 := Aside0.mk n11
  replace m12 := Aside0.mk m12
  replace n12 := Aside0.mk n12
  replace q1 := Aside0.mk q1
  replace m21 := Aside0.mk m21
  replace n21 := Aside0.mk n21
  replace m22 := Aside0.mk m22
  replace n22 := Aside0.mk n22
  replace q2 := Aside0.mk q2
  replace m31 := Aside0.mk m31
  replace n31 := Aside0.mk n31
  replace m32 := Aside0.mk m32
  replace n32 := Aside0.mk n32
  replace q3 := Aside0.mk q3
  replace m4 := Aside0.mk m4
  replace n41 := Aside0.mk n41
  replace n42 := Aside0.mk n42
  replace n43 := Aside0.mk n43
  go_enter Tryd.func3, Tryd.ntmps3
  go_wp2_with fail
  refine (f4.out _ hX.out).mono ?_
  rintro e w1 ⟨rfl, hb⟩
  replace hX := Aside0.mk (below_then hX.out hX.out.size hb)
  clear hb
  go_wp2_with fail
  refine (f2.out _ hX.out).mono ?_
  rintro e w2 ⟨rfl, hb⟩
  replace hX := Aside0.mk (below_then hX.out hX.out.size hb)
  clear hb f4 f2
  go_wp2_with fail
  go_loopw [8] (fun i wr => ∃ k : Int, (k = 0 ∨ k = 1 ∨ k = 2 ∨ k = 3 ∨ k = 4) ∧ i = .int .i64 k ∧ Aside0 (Below w.heap.size w wr) ∧ Aside0 (Pb wr w2.heap.size)) (fun i _ => 4 - (intOf i).toNat)
  case atStart => exact ⟨0, .inl rfl, rfl, ⟨below_alloc hX.out _⟩, ⟨heap_alloc_new w2 _⟩⟩
  case round =>
    obtain ⟨k, hk, rfl, hB, hP⟩ := hrel
    clear hX
    rcases hk with rfl | rfl | rfl | rfl | rfl
    · have z0 : wr.cell? ⟨w2.heap.size, 0, none⟩ = some (.string o_in) := (blk_cell hP.out 0).trans rfl
      have z1 : wr.cell? ⟨w2.heap.size, 1, none⟩ = some (.string o_notin) := (blk_cell hP.out 1).trans rfl
      have hlt : w2.heap.size < wr.heap.size := blk_lt hP.out
      have hlt2 : ¬ (wr.heap.size = w2.heap.size) := by omega
      have hlt3 : ¬ (w2.heap.size = wr.heap.size) := by omega
      go_wp2_with fail
      go_region
      go_wp2_with fail
      all_goals
        clear z0 z1 hlt hlt2 hlt3
        have hR := Aside0.mk (fun o o2 => below_drew (below_alloc (below_alloc (Below.refl wr.heap.size wr) o) o2))
        refine (m01.out _ (bt0 hB.out (hR.out _ _))).mono ?_
        rintro e w4 ⟨rfl, hb⟩
        obtain ⟨hc_w4, hf_w4⟩ := bcell hb
        replace hR := Aside0.mk (bt0 (hR.out _ _) hb)
        have hz_w4 : wr.heap.size < w4.heap.size := by have := hb.size; (try simp at this); omega
        have hy_w4 : wr.heap.size + 1 < w4.heap.size := by have := hb.size; (try simp at this); omega
        clear hb
        rcases b01 with _ | _
        · go_wp2_with fail
          go_roundw
          case rel => exact ⟨1, .inr (.inl rfl), rfl, ⟨bt0 hB.out hR.out⟩, ⟨hP.out.below hR.out⟩⟩
          case measure => simp [intOf]
        replace n01 := Aside0.mk (n01.out rfl)
        go_wp2_with fail
        refine (m02.out _ (bt0 hB.out hR.out)).mono ?_
        rintro e w5 ⟨rfl, hb⟩
        obtain ⟨hc_w5, hf_w5⟩ := bcell hb
        replace hR := Aside0.mk (bt0 hR.out hb)
        have hz_w5 : wr.heap.size < w5.heap.size := by have := hb.size; (try simp at this); omega
        have hy_w5 : wr.heap.size + 1 < w5.heap.size := by have := hb.size; (try simp at this); omega
        clear hb
        rcases b02 with _ | _
        · go_wp2_with fail
          go_roundw
          case rel => exact ⟨1, .inr (.inl rfl), rfl, ⟨bt0 hB.out hR.out⟩, ⟨hP.out.below hR.out⟩⟩
          case measure => simp [intOf]
        replace n02 := Aside0.mk (n02.out rfl)
        rcases r01 with _ | _
        all_goals
          have q := q0.out
          simp only [Bool.not_true, Bool.not_false] at q
          subst q
          go_wp2_with fail
          refine (n01.out _ (bt0 hB.out hR.out)).mono ?_
          rintro e w6 ⟨rfl, hb⟩
          obtain ⟨hc_w6, hf_w6⟩ := bcell hb
          replace hR := Aside0.mk (bt0 hR.out hb)
          have hz_w6 : wr.heap.size < w6.heap.size := by have := hb.size; (try simp at this); omega
          have hy_w6 : wr.heap.size + 1 < w6.heap.size := by have := hb.size; (try simp at this); omega
          clear hb
          go_wp2_with fail
          refine (n02.out _ (bt0 hB.out hR.out)).mono ?_
          rintro e w7 ⟨rfl, hb⟩
          obtain ⟨hc_w7, hf_w7⟩ := bcell hb
          replace hR := Aside0.mk (bt0 hR.out hb)
          have hz_w7 : wr.heap.size < w7.heap.size := by have := hb.size; (try simp at this); omega
          have hy_w7 : wr.heap.size + 1 < w7.heap.size := by have := hb.size; (try simp at this); omega
          clear hb
          go_wp2_with fail
          go_roundw
          case rel => exact ⟨1, .inr (.inl rfl), rfl, ⟨bt0 hB.out hR.out⟩, ⟨hP.out.below hR.out⟩⟩
          case measure => simp [intOf]
    · have z0 : wr.cell? ⟨w2.heap.size, 2, none⟩ = some (.string o_eq) := (blk_cell hP.out 2).trans rfl
      have z1 : wr.cell? ⟨w2.heap.size, 3, none⟩ = some (.string o_ne) := (blk_cell hP.out 3).trans rfl
      have hlt : w2.heap.size < wr.heap.size := blk_lt hP.out
      have hlt2 : ¬ (wr.heap.size = w2.heap.size) := by omega
      have hlt3 : ¬ (w2.heap.size = wr.heap.size) := by omega
      go_wp2_with fail
      go_region
      go_wp2_with fail
      all_goals
        clear z0 z1 hlt hlt2 hlt3
        have hR := Aside0.mk (fun o o2 => below_drew (below_alloc (below_alloc (Below.refl wr.heap.size wr) o) o2))
        refine (m11.out _ (bt0 hB.out (hR.out _ _))).mono ?_
        rintro e w4 ⟨rfl, hb⟩
        obtain ⟨hc_w4, hf_w4⟩ := bcell hb
        replace hR := Aside0.mk (bt0 (hR.out _ _) hb)
        have hz_w4 : wr.heap.size < w4.heap.size := by have := hb.size; (try simp at this); omega
        have hy_w4 : wr.heap.size + 1 < w4.heap.size := by have := hb.size; (try simp at this); omega
        clear hb
        rcases b11 with _ | _
        · go_wp2_with fail
          go_roundw
          case rel => exact ⟨2, .inr (.inr (.inl rfl)), rfl, ⟨bt0 hB.out hR.out⟩, ⟨hP.out.below hR.out⟩⟩
          case measure => simp [intOf]
        replace n11 := Aside0.mk (n11.out rfl)
        go_wp2_with fail
        refine (m12.out _ (bt0 hB.out hR.out)).mono ?_
        rintro e w5 ⟨rfl, hb⟩
        obtain ⟨hc_w5, hf_w5⟩ := bcell hb
        replace hR := Aside0.mk (bt0 hR.out hb)
        have hz_w5 : wr.heap.size < w5.heap.size := by have := hb.size; (try simp at this); omega
        have hy_w5 : wr.heap.size + 1 < w5.heap.size := by have := hb.size; (try simp at this); omega
        clear hb
        rcases b12 with _ | _
        · go_wp2_with fail
          go_roundw
          case rel => exact ⟨2, .inr (.inr (.inl rfl)), rfl, ⟨bt0 hB.out hR.out⟩, ⟨hP.out.below hR.out⟩⟩
          case measure => simp [intOf]
        replace n12 := Aside0.mk (n12.out rfl)
        rcases r11 with _ | _
        all_goals
          have q := q1.out
          simp only [Bool.not_true, Bool.not_false] at q
          subst q
          go_wp2_with fail
          refine (n11.out _ (bt0 hB.out hR.out)).mono ?_
          rintro e w6 ⟨rfl, hb⟩
          obtain ⟨hc_w6, hf_w6⟩ := bcell hb
          replace hR := Aside0.mk (bt0 hR.out hb)
          have hz_w6 : wr.heap.size < w6.heap.size := by have := hb.size; (try simp at this); omega
          have hy_w6 : wr.heap.size + 1 < w6.heap.size := by have := hb.size; (try simp at this); omega
          clear hb
          go_wp2_with fail
          refine (n12.out _ (bt0 hB.out hR.out)).mono ?_
          rintro e w7 ⟨rfl, hb⟩
          obtain ⟨hc_w7, hf_w7⟩ := bcell hb
          replace hR := Aside0.mk (bt0 hR.out hb)
          have hz_w7 : wr.heap.size < w7.heap.size := by have := hb.size; (try simp at this); omega
          have hy_w7 : wr.heap.size + 1 < w7.heap.size := by have := hb.size; (try simp at this); omega
          clear hb
          go_wp2_with fail
          go_roundw
          case rel => exact ⟨2, .inr (.inr (.inl rfl)), rfl, ⟨bt0 hB.out hR.out⟩, ⟨hP.out.below hR.out⟩⟩
          case measure => simp [intOf]
    · have z0 : wr.cell? ⟨w2.heap.size, 4, none⟩ = some (.string o_ex) := (blk_cell hP.out 4).trans rfl
      have z1 : wr.cell? ⟨w2.heap.size, 5, none⟩ = some (.string o_nx) := (blk_cell hP.out 5).trans rfl
      have hlt : w2.heap.size < wr.heap.size := blk_lt hP.out
      have hlt2 : ¬ (wr.heap.size = w2.heap.size) := by omega
      have hlt3 : ¬ (w2.heap.size = wr.heap.size) := by omega
      go_wp2_with fail
      go_region
      go_wp2_with fail
      all_goals
        clear z0 z1 hlt hlt2 hlt3
        have hR := Aside0.mk (fun o o2 => below_drew (below_alloc (below_alloc (Below.refl wr.heap.size wr) o) o2))
        refine (m21.out _ (bt0 hB.out (hR.out _ _))).mono ?_
        rintro e w4 ⟨rfl, hb⟩
        obtain ⟨hc_w4, hf_w4⟩ := bcell hb
        replace hR := Aside0.mk (bt0 (hR.out _ _) hb)
        have hz_w4 : wr.heap.size < w4.heap.size := by have := hb.size; (try simp at this); omega
        have hy_w4 : wr.heap.size + 1 < w4.heap.size := by have := hb.size; (try simp at this); omega
        clear hb
        rcases b21 with _ | _
        · go_wp2_with fail
          go_roundw
          case rel => exact ⟨3, .inr (.inr (.inr (.inl rfl))), rfl, ⟨bt0 hB.out hR.out⟩, ⟨hP.out.below hR.out⟩⟩
          case measure => simp [intOf]
        replace n21 := Aside0.mk (n21.out rfl)
        go_wp2_with fail
        refine (m22.out _ (bt0 hB.out hR.out)).mono ?_
        rintro e w5 ⟨rfl, hb⟩
        obtain ⟨hc_w5, hf_w5⟩ := bcell hb
        replace hR := Aside0.mk (bt0 hR.out hb)
        have hz_w5 : wr.heap.size < w5.heap.size := by have := hb.size; (try simp at this); omega
        have hy_w5 : wr.heap.size + 1 < w5.heap.size := by have := hb.size; (try simp at this); omega
        clear hb
        rcases b22 with _ | _
        · go_wp2_with fail
          go_roundw
          case rel => exact ⟨3, .inr (.inr (.inr (.inl rfl))), rfl, ⟨bt0 hB.out hR.out⟩, ⟨hP.out.below hR.out⟩⟩
          case measure => simp [intOf]
        replace n22 := Aside0.mk (n22.out rfl)
        rcases r21 with _ | _
        all_goals
          have q := q2.out
          simp only [Bool.not_true, Bool.not_false] at q
          subst q
          go_wp2_with fail
          refine (n21.out _ (bt0 hB.out hR.out)).mono ?_
          rintro e w6 ⟨rfl, hb⟩
          obtain ⟨hc_w6, hf_w6⟩ := bcell hb
          replace hR := Aside0.mk (bt0 hR.out hb)
          have hz_w6 : wr.heap.size < w6.heap.size := by have := hb.size; (try simp at this); omega
          have hy_w6 : wr.heap.size + 1 < w6.heap.size := by have := hb.size; (try simp at this); omega
          clear hb
          go_wp2_with fail
          refine (n22.out _ (bt0 hB.out hR.out)).mono ?_
          rintro e w7 ⟨rfl, hb⟩
          obtain ⟨hc_w7, hf_w7⟩ := bcell hb
          replace hR := Aside0.mk (bt0 hR.out hb)
          have hz_w7 : wr.heap.size < w7.heap.size := by have := hb.size; (try simp at this); omega
          have hy_w7 : wr.heap.size + 1 < w7.heap.size := by have := hb.size; (try simp at this); omega
          clear hb
          go_wp2_with fail
          go_roundw
          case rel => exact ⟨3, .inr (.inr (.inr (.inl rfl))), rfl, ⟨bt0 hB.out hR.out⟩, ⟨hP.out.below hR.out⟩⟩
          case measure => simp [intOf]
    · have z0 : wr.cell? ⟨w2.heap.size, 6, none⟩ = some (.string o_gt) := (blk_cell hP.out 6).trans rfl
      have z1 : wr.cell? ⟨w2.heap.size, 7, none⟩ = some (.string o_lt) := (blk_cell hP.out 7).trans rfl
      have hlt : w2.heap.size < wr.heap.size := blk_lt hP.out
      have hlt2 : ¬ (wr.heap.size = w2.heap.size) := by omega
      have hlt3 : ¬ (w2.heap.size = wr.heap.size) := by omega
      go_wp2_with fail
      go_region
      go_wp2_with fail
      all_goals
        clear z0 z1 hlt hlt2 hlt3
        have hR := Aside0.mk (fun o o2 => below_drew (below_alloc (below_alloc (Below.refl wr.heap.size wr) o) o2))
        refine (m31.out _ (bt0 hB.out (hR.out _ _))).mono ?_
        rintro e w4 ⟨rfl, hb⟩
        obtain ⟨hc_w4, hf_w4⟩ := bcell hb
        replace hR := Aside0.mk (bt0 (hR.out _ _) hb)
        have hz_w4 : wr.heap.size < w4.heap.size := by have := hb.size; (try simp at this); omega
        have hy_w4 : wr.heap.size + 1 < w4.heap.size := by have := hb.size; (try simp at this); omega
        clear hb
        rcases b31 with _ | _
        · go_wp2_with fail
          go_roundw
          case rel => exact ⟨4, .inr (.inr (.inr (.inr rfl))), rfl, ⟨bt0 hB.out hR.out⟩, ⟨hP.out.below hR.out⟩⟩
          case measure => simp [intOf]
        replace n31 := Aside0.mk (n31.out rfl)
        go_wp2_with fail
        refine (m32.out _ (bt0 hB.out hR.out)).mono ?_
        rintro e w5 ⟨rfl, hb⟩
        obtain ⟨hc_w5, hf_w5⟩ := bcell hb
        replace hR := Aside0.mk (bt0 hR.out hb)
        have hz_w5 : wr.heap.size < w5.heap.size := by have := hb.size; (try simp at this); omega
        have hy_w5 : wr.heap.size + 1 < w5.heap.size := by have := hb.size; (try simp at this); omega
        clear hb
        rcases b32 with _ | _
        · go_wp2_with fail
          go_roundw
          case rel => exact ⟨4, .inr (.inr (.inr (.inr rfl))), rfl, ⟨bt0 hB.out hR.out⟩, ⟨hP.out.below hR.out⟩⟩
          case measure => simp [intOf]
        replace n32 := Aside0.mk (n32.out rfl)
        have q := q3.out
        rcases r31 with _ | _ <;> rcases r32 with _ | _ <;> (first | (exact absurd q (by decide)) | skip)
        all_goals
          clear q
          go_wp2_with fail
          refine (n31.out _ (bt0 hB.out hR.out)).mono ?_
          rintro e w6 ⟨rfl, hb⟩
          obtain ⟨hc_w6, hf_w6⟩ := bcell hb
          replace hR := Aside0.mk (bt0 hR.out hb)
          have hz_w6 : wr.heap.size < w6.heap.size := by have := hb.size; (try simp at this); omega
          have hy_w6 : wr.heap.size + 1 < w6.heap.size := by have := hb.size; (try simp at this); omega
          clear hb
          go_wp2_with fail
          refine (n32.out _ (bt0 hB.out hR.out)).mono ?_
          rintro e w7 ⟨rfl, hb⟩
          obtain ⟨hc_w7, hf_w7⟩ := bcell hb
          replace hR := Aside0.mk (bt0 hR.out hb)
          have hz_w7 : wr.heap.size < w7.heap.size := by have := hb.size; (try simp at this); omega
          have hy_w7 : wr.heap.size + 1 < w7.heap.size := by have := hb.size; (try simp at this); omega
          clear hb
          go_wp2_with fail
          go_roundw
          case rel => exact ⟨4, .inr (.inr (.inr (.inr rfl))), rfl, ⟨bt0 hB.out hR.out⟩, ⟨hP.out.below hR.out⟩⟩
          case measure => simp [intOf]
    · go_wp2_with fail
      have hR := Aside0.mk (below_alloc (Below.refl wr.heap.size wr) (.cells #[.string key, .string o_eq, .slice A l.length c] 29 (0, 0)))
      refine (m4.out _ (bt0 hB.out hR.out)).mono ?_
      rintro e w4 ⟨rfl, hb⟩
      obtain ⟨hc_w4, hf_w4⟩ := bcell hb
      replace hR := Aside0.mk (bt0 hR.out hb)
      have hz_w4 : wr.heap.size < w4.heap.size := by have := hb.size; (try simp at this); omega
      clear hb
      rcases b4 with _ | _
      · go_wp2_with fail
        go_ret
        exact ⟨rfl, bt0 hB.out hR.out⟩
      replace n41 := Aside0.mk (n41.out rfl)
      replace n42 := Aside0.mk (n42.out rfl)
      replace n43 := Aside0.mk (n43.out rfl)
      go_wp2_with fail
      refine (n41.out _ (bt0 hB.out hR.out)).mono ?_
      rintro e w5 ⟨rfl, hb⟩
      obtain ⟨hc_w5, hf_w5⟩ := bcell hb
      replace hR := Aside0.mk (bt0 hR.out hb)
      have hz_w5 : wr.heap.size < w5.heap.size := by have := hb.size; (try simp at this); omega
      clear hb
      --LAST
      go_wp2_with fail
      have hR5 := Aside0.mk (hR.out.setCell (p := ⟨wr.heap.size, 1, none⟩) (Nat.le_refl _) (.string o_eq2))
      refine (n42.out _ (bt0 hB.out hR5.out)).mono ?_
      rintro e w6 ⟨rfl, hb⟩
      obtain ⟨hc_w6, hf_w6⟩ := bcell hb
      replace hR := Aside0.mk (bt0 hR5.out hb)
      have hz_w6 : wr.heap.size < w6.heap.size := by have := hb.size; (try simp at this); omega
      clear hb hR5
      have x5 : w5.cell? ⟨wr.heap.size, 1, none⟩ = some (.string o_eq) ∧ w5.cell? ⟨wr.heap.size, 0, none⟩ = some (.string key) ∧ w5.cell? ⟨wr.heap.size, 2, none⟩ = some (.slice A l.length c) := by
        refine ⟨?_, ?_, ?_⟩ <;> (rw [hc_w5 _ _ hz_w4, hc_w4 _ _ (by simp)]; simp [go_sem])
      obtain ⟨x51, x50, x52⟩ := x5
      have x6 : w6.cell? ⟨wr.heap.size, 1, none⟩ = some (.string o_eq2) ∧ w6.cell? ⟨wr.heap.size, 0, none⟩ = some (.string key) ∧ w6.cell? ⟨wr.heap.size, 2, none⟩ = some (.slice A l.length c) := by
        refine ⟨?_, ?_, ?_⟩ <;> (rw [hc_w6 _ _ (by simpa using hz_w5)]; simp [go_sem, x51, x50, x52])
      obtain ⟨x61, x60, x62⟩ := x6
      go_wp2_with fail
      have hR6 := Aside0.mk (hR.out.setCell (p := ⟨wr.heap.size, 1, none⟩) (Nat.le_refl _) (.string o_in))
      refine (n43.out _ (bt0 hB.out hR6.out)).mono ?_
      rintro e w7 ⟨rfl, hb⟩
      replace hR := Aside0.mk (bt0 hR6.out hb)
      clear hb hR6
      have hr4 : (r4 == r4) = true := by simp
      go_wp2_with fail
      go_ret
      exact ⟨rfl, bt0 hB.out hR.out⟩
end Go.Proofs.YtjlmhfciidfjiaaDoor.NdK
