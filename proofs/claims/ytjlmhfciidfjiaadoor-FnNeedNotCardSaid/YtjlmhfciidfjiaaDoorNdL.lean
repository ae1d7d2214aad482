/- FnNeedNot: the law's function walked. -/
import Derived.Test.YtjlmhfciidfjiaaDoorNdM
import Derived.Test.YtjlmhfciidfjiaaDoorNdK
set_option linter.unusedSimpArgs false
set_option linter.unusedVariables false
namespace Go.Proofs.YtjlmhfciidfjiaaDoor.NdL
open Go.RowKit Go.Maps Go.Proofs.YtjlmhfciidfjiaaDoorW.PrintWords Go.Proofs.YtjlmhfciidfjiaaDoorW.PrintLast Go.Proofs.YtjlmhfciidfjiaaDoor.EvL Go.Proofs.YtjlmhfciidfjiaaDoor.SetGen Go.Proofs.YtjlmhfciidfjiaaDoor.MapGen Go.Proofs.YtjlmhfciidfjiaaDoor.XFnNeedNot Go.Proofs.YtjlmhfciidfjiaaDoor.LabS Go.Proofs.YtjlmhfciidfjiaaDoor.NdR Go.Proofs.YtjlmhfciidfjiaaDoor.NdP Go.Proofs.YtjlmhfciidfjiaaDoor.NdQ Go.Proofs.YtjlmhfciidfjiaaDoor.NdS Go.Proofs.YtjlmhfciidfjiaaDoor.NdM Go.Proofs.YtjlmhfciidfjiaaDoor.NdZ Go.Proofs.YtjlmhfciidfjiaaDoor.NdK
/-- What the operators ask. -/
def inA (f : ByteArray → Option ByteArray) (key : ByteArray) (l : List ByteArray) : Bool := match f key with | some u => decide (u ∈ l) | none => false
def exA (f : ByteArray → Option ByteArray) (key : ByteArray) : Bool := (f key).isSome
def gtA (f : ByteArray → Option ByteArray) (key : ByteArray) (y : Int) : Bool := match f key with | some u => (match whole u with | some x => decide (y < x) | none => false) | none => false
def ltA (f : ByteArray → Option ByteArray) (key : ByteArray) (y : Int) : Bool := match f key with | some u => (match whole u with | some x => decide (x < y) | none => false) | none => false
theorem gt_lt (f : ByteArray → Option ByteArray) (key : ByteArray) (y : Int) : (gtA f key y && ltA f key y) = false := by
  unfold gtA ltA
  cases f key with
  | none => rfl
  | some u =>
    cases hw : whole u with
    | none => simp [hw]
    | some x =>
      simp only [hw, Bool.and_eq_false_iff, decide_eq_false_iff_not]
      omega
theorem Mt_in (key : ByteArray) (hk : key.size ≤ maxLen) (l : List ByteArray) (hl : l.length ≤ 4294967296) (f : ByteArray → Option ByteArray) : Mt o_in key l f (inA f key l) := by
  intro g A c b N w hV hM hR hC
  unfold inA
  cases hf : f key with
  | none => exact mt_in_none g key hk A c l b N f w hM hR hC hl hf
  | some u => exact mt_in_some g key hk A c l b N f w hM hR hC hl u hf
theorem Mt_eq (key : ByteArray) (hk : key.size ≤ maxLen) (l : List ByteArray) (hl : l.length ≤ 4294967296) (f : ByteArray → Option ByteArray) : Mt o_eq key l f (inA f key l) := by
  intro g A c b N w hV hM hR hC
  unfold inA
  cases hf : f key with
  | none => exact mt_eq_none g key hk A c l b N f w hM hR hC hl hf
  | some u => exact mt_eq_some g key hk A c l b N f w hM hR hC hl u hf
theorem Mt_eq2 (key : ByteArray) (hk : key.size ≤ maxLen) (l : List ByteArray) (hl : l.length ≤ 4294967296) (f : ByteArray → Option ByteArray) : Mt o_eq2 key l f (inA f key l) := by
  intro g A c b N w hV hM hR hC
  unfold inA
  cases hf : f key with
  | none => exact mt_eq2_none g key hk A c l b N f w hM hR hC hl hf
  | some u => exact mt_eq2_some g key hk A c l b N f w hM hR hC hl u hf
theorem Mt_notin (key : ByteArray) (hk : key.size ≤ maxLen) (l : List ByteArray) (hl : l.length ≤ 4294967296) (f : ByteArray → Option ByteArray) : Mt o_notin key l f (!inA f key l) := by
  intro g A c b N w hV hM hR hC
  unfold inA
  cases hf : f key with
  | none => exact mt_notin_none g key hk A c l b N f w hM hR hC hl hf
  | some u => exact mt_notin_some g key hk A c l b N f w hM hR hC hl u hf
theorem Mt_ne (key : ByteArray) (hk : key.size ≤ maxLen) (l : List ByteArray) (hl : l.length ≤ 4294967296) (f : ByteArray → Option ByteArray) : Mt o_ne key l f (!inA f key l) := by
  intro g A c b N w hV hM hR hC
  unfold inA
  cases hf : f key with
  | none => exact mt_ne_none g key hk A c l b N f w hM hR hC hl hf
  | some u => exact mt_ne_some g key hk A c l b N f w hM hR hC hl u hf
theorem Mt_ex (key : ByteArray) (hk : key.size ≤ maxLen) (l : List ByteArray) (hl : l.length ≤ 4294967296) (f : ByteArray → Option ByteArray) : Mt o_ex key l f (exA f key) := by
  intro g A c b N w hV hM hR hC
  unfold exA
  cases hf : f key with
  | none => exact mt_ex_none g key hk A c l b N f w hM hR hC hl hf
  | some u => exact mt_ex_some g key hk A c l b N f w hM hR hC hl u hf
theorem Mt_nx (key : ByteArray) (hk : key.size ≤ maxLen) (l : List ByteArray) (hl : l.length ≤ 4294967296) (f : ByteArray → Option ByteArray) : Mt o_nx key l f (!exA f key) := by
  intro g A c b N w hV hM hR hC
  unfold exA
  cases hf : f key with
  | none => exact mt_nx_none g key hk A c l b N f w hM hR hC hl hf
  | some u => exact mt_nx_some g key hk A c l b N f w hM hR hC hl u hf
theorem Mt_gt (key : ByteArray) (hk : key.size ≤ maxLen) (v : ByteArray) (hv : v.size ≤ 140737488351232) (y : Int) (hy : whole v = some y) (f : ByteArray → Option ByteArray) (hsz : ∀ u, f key = some u → u.size ≤ 2147483647) : Mt o_gt key [v] f (gtA f key y) := by
  intro g A c b N w hV hM hR hC
  unfold gtA
  cases hf : f key with
  | none => exact mt_gt_none g key hk A c b N f w hM hR hf
  | some u =>
    have hu : u.size ≤ 140737488351232 := by have := hsz u hf; omega
    simp only
    cases hw : whole u with
    | none => exact mt_gt_bad g key hk A c b N f w hM hR u hf hu hw hV
    | some x => exact mt_gt_num g key hk A c b N f w hM hR u hf hu x hw v hv y hy hC
theorem New_gt (key v : ByteArray) (hv : v.size ≤ 140737488351232) (y : Int) (hy : whole v = some y) : New o_gt key [v] := fun A c w hC => new_gt key A c v hv y hy w hC
theorem Mt_lt (key : ByteArray) (hk : key.size ≤ maxLen) (v : ByteArray) (hv : v.size ≤ 140737488351232) (y : Int) (hy : whole v = some y) (f : ByteArray → Option ByteArray) (hsz : ∀ u, f key = some u → u.size ≤ 2147483647) : Mt o_lt key [v] f (ltA f key y) := by
  intro g A c b N w hV hM hR hC
  unfold ltA
  cases hf : f key with
  | none => exact mt_lt_none g key hk A c b N f w hM hR hf
  | some u =>
    have hu : u.size ≤ 140737488351232 := by have := hsz u hf; omega
    simp only
    cases hw : whole u with
    | none => exact mt_lt_bad g key hk A c b N f w hM hR u hf hu hw hV
    | some x => exact mt_lt_num g key hk A c b N f w hM hR u hf hu x hw v hv y hy hC
theorem New_lt (key v : ByteArray) (hv : v.size ≤ 140737488351232) (y : Int) (hy : whole v = some y) : New o_lt key [v] := fun A c w hC => new_lt key A c v hv y hy w hC
theorem New_in (key : ByteArray) (l : List ByteArray) (h : ¬ l.length = 0) : New o_in key l := fun A c w _ => new_in key A l.length c w h
theorem New_notin (key : ByteArray) (l : List ByteArray) (h : ¬ l.length = 0) : New o_notin key l := fun A c w _ => new_notin key A l.length c w h
theorem New_ex (key : ByteArray) (l : List ByteArray) (h : l.length = 0) : New o_ex key l := fun A c w _ => new_ex key A l.length c w h
theorem New_nx (key : ByteArray) (l : List ByteArray) (h : l.length = 0) : New o_nx key l := fun A c w _ => new_nx key A l.length c w h
theorem New_eq (key : ByteArray) (l : List ByteArray) (h : l.length = 1) : New o_eq key l := fun A c w _ => new_eq key A l.length c w h
theorem New_eq2 (key : ByteArray) (l : List ByteArray) (h : l.length = 1) : New o_eq2 key l := fun A c w _ => new_eq2 key A l.length c w h
theorem New_ne (key : ByteArray) (l : List ByteArray) (h : l.length = 1) : New o_ne key l := fun A c w _ => new_ne key A l.length c w h
theorem fn_val (ls : List S35) (key u : ByteArray) (h : fn ls key = some u) (Q : ByteArray → Prop) (hq : ∀ p ∈ ls, Q p.f1) : Q u := by
  have key' : ∀ (L : List S35) (g : ByteArray → Option ByteArray), (∀ p ∈ L, Q p.f1) → (∀ v, g key = some v → Q v) → ∀ v, L.foldl (fun g p q => if q = p.f0 then some p.f1 else g q) g key = some v → Q v := by
    intro L
    induction L with
    | nil => intro g _ hg v hv; exact hg v hv
    | cons p L ih =>
      intro g hL hg v hv
      refine ih _ (fun x hx => hL x (List.mem_cons_of_mem _ hx)) ?_ v hv
      intro v hv
      simp only at hv
      split at hv
      · obtain rfl := Option.some.inj hv; exact hL p (by simp)
      · exact hg v hv
  exact key' ls _ hq (fun v hv => by cases hv) u h
theorem fits4_size (l : List ByteArray) (hl : (l.length : Int) ≤ 2147483647) : ∀ (k : Nat) (i : Int), 0 ≤ i → laws_zzFits4.l0 k l (l.length : Int) i = some true → ∀ (j : Nat) (x : ByteArray), i ≤ (j : Int) → l[j]? = some x → x.size ≤ 2147483647 := by
  intro k
  induction k with
  | zero => intro i _ h; simp [laws_zzFits4.l0] at h
  | succ k ih =>
    intro i h0 h j x hij hj
    have hjl : j < l.length := (List.getElem?_eq_some_iff.1 hj).1
    unfold laws_zzFits4.l0 at h
    rw [if_pos (by omega), if_pos (by omega), if_pos (by omega)] at h
    split at h
    · cases h
    · rename_i hs
      by_cases e : i = (j : Int)
      · subst e
        unfold rdOf at hs
        rw [List.getD_eq_getElem?_getD, Int.toNat_natCast, hj] at hs
        simp only [Option.getD_some] at hs
        omega
      · rw [w64 (by omega) (by omega)] at h
        exact ih (i + 1) (by omega) h j x (by omega) hj
theorem fits4_say (l : List ByteArray) (k : Nat) (h : laws_zzFits4.f k l = some true) : ∀ x ∈ l, x.size ≤ 2147483647 := by
  intro x hx
  obtain ⟨j, hj⟩ := List.getElem?_of_mem hx
  unfold laws_zzFits4.f at h
  split at h
  · cases h
  · exact fits4_size l (by omega) k 0 (by omega) h j x (by omega) hj
theorem fits2_size (l : List S35) (hl : (l.length : Int) ≤ 2147483647) : ∀ (k : Nat) (i : Int), 0 ≤ i → laws_zzFits2.l0 k l (l.length : Int) i = some true → ∀ (j : Nat) (x : S35), i ≤ (j : Int) → l[j]? = some x → x.f1.size ≤ 2147483647 := by
  intro k
  induction k with
  | zero => intro i _ h; simp [laws_zzFits2.l0] at h
  | succ k ih =>
    intro i h0 h j x hij hj
    have hjl : j < l.length := (List.getElem?_eq_some_iff.1 hj).1
    unfold laws_zzFits2.l0 at h
    rw [if_pos (by omega), if_pos (by omega), if_pos (by omega)] at h
    unfold laws_zzFits3.f at h
    split at h
    · cases h
    · rename_i hs0
      split at h
      · cases h
      · rename_i hs
        simp only [Option.bind_some, if_true] at h
        by_cases e : i = (j : Int)
        · subst e
          unfold rd_T35 at hs
          rw [List.getD_eq_getElem?_getD, Int.toNat_natCast, hj] at hs
          simp only [Option.getD_some] at hs
          omega
        · rw [w64 (by omega) (by omega)] at h
          exact ih (i + 1) (by omega) h j x (by omega) hj
theorem fits2_say (l : List S35) (k : Nat) (h : laws_zzFits2.f k l = some true) : ∀ x ∈ l, x.f1.size ≤ 2147483647 := by
  intro x hx
  obtain ⟨j, hj⟩ := List.getElem?_of_mem hx
  unfold laws_zzFits2.f at h
  split at h
  · cases h
  · exact fits2_size l (by omega) k 0 (by omega) h j x (by omega) hj
/-- The inputs, as they lie. -/
structure In (key : ByteArray) (A : Option Addr) (c : Nat) (l : List ByteArray) (As : Option Addr) (cs : Nat) (ls : List S35) (w : World) : Prop where
  V : Vars.Vars w
  hk : key.size ≤ 2147483647
  hr : Kd.string.C w A l.length l
  hc : l.length ≤ c
  hl : l.length ≤ 2147483647
  hx : ∀ x ∈ l, x.size ≤ maxLen
  hxs : ∀ x ∈ l, x.size ≤ 2147483647
  hps : ∀ p ∈ ls, p.f1.size ≤ 2147483647
  hrs : k35.C w As ls.length ls
  hls : ls.length ≤ 2147483647
  hok : ∀ p ∈ ls, p.f0.size ≤ maxLen ∧ p.f1.size ≤ maxLen
section
variable {key : ByteArray} {A : Option Addr} {c : Nat} {l : List ByteArray} {As : Option Addr} {cs : Nat} {ls : List S35} {w : World}
theorem MY.of (I : In key A c l As cs ls w) {op : ByteArray} {k : Nat} {b : Bool} (h : spec_NeedMay.f k key op l = some b) : MY op key A c l w b :=
  fun W hb => spec_NeedMay.calls k key op A c l b W (Kd.C_below I.hr hb) I.hc h
theorem NM.of (I : In key A c l As cs ls w) {op : ByteArray} {r : Bool} (hn : New op key l) (hm : Mt op key l (fn ls) r) : NM op key A c l As cs ls w r :=
  fun W hb => nm_c op key l (by have := I.hl; omega) hn A c I.hc As ls cs (by have := I.hls; omega) I.hok r hm W (I.V.below hb) (Kd.C_below I.hr hb) (Kd.C_below I.hrs hb)
theorem In.fsz (I : In key A c l As cs ls w) : ∀ u, fn ls key = some u → u.size ≤ 2147483647 := fun u hu => fn_val ls key u hu (fun v => v.size ≤ 2147483647) I.hps
theorem In.km (I : In key A c l As cs ls w) : key.size ≤ maxLen := by have := I.hk; unfold maxLen; omega
theorem In.lm (I : In key A c l As cs ls w) : l.length ≤ 4294967296 := by have := I.hl; omega
theorem pair_in (I : In key A c l As cs ls w) : ∃ b1 b2 r, MY o_in key A c l w b1 ∧ MY o_notin key A c l w b2 ∧ (b1 = true → NM o_in key A c l As cs ls w r) ∧ (b2 = true → NM o_notin key A c l As cs ls w (!r)) := by
  obtain ⟨k1, b1, h1, e1⟩ := may_in key I.hk l I.hl I.hx
  obtain ⟨k2, b2, h2, e2⟩ := may_notin key I.hk l I.hl I.hx
  exact ⟨b1, b2, inA (fn ls) key l, MY.of I h1, MY.of I h2, fun e => NM.of I (New_in key l (e1 e)) (Mt_in key I.km l I.lm (fn ls)), fun e => NM.of I (New_notin key l (e2 e)) (Mt_notin key I.km l I.lm (fn ls))⟩
theorem pair_eq (I : In key A c l As cs ls w) : ∃ b1 b2 r, MY o_eq key A c l w b1 ∧ MY o_ne key A c l w b2 ∧ (b1 = true → NM o_eq key A c l As cs ls w r) ∧ (b2 = true → NM o_ne key A c l As cs ls w (!r)) := by
  obtain ⟨k1, b1, h1, e1⟩ := may_eq key I.hk l I.hl I.hx
  obtain ⟨k2, b2, h2, e2⟩ := may_ne key I.hk l I.hl I.hx
  exact ⟨b1, b2, inA (fn ls) key l, MY.of I h1, MY.of I h2, fun e => NM.of I (New_eq key l (e1 e)) (Mt_eq key I.km l I.lm (fn ls)), fun e => NM.of I (New_ne key l (e2 e)) (Mt_ne key I.km l I.lm (fn ls))⟩
theorem pair_ex (I : In key A c l As cs ls w) : ∃ b1 b2 r, MY o_ex key A c l w b1 ∧ MY o_nx key A c l w b2 ∧ (b1 = true → NM o_ex key A c l As cs ls w r) ∧ (b2 = true → NM o_nx key A c l As cs ls w (!r)) := by
  obtain ⟨k1, b1, h1, e1⟩ := may_ex key I.hk l I.hl I.hx
  obtain ⟨k2, b2, h2, e2⟩ := may_nx key I.hk l I.hl I.hx
  exact ⟨b1, b2, exA (fn ls) key, MY.of I h1, MY.of I h2, fun e => NM.of I (New_ex key l (e1 e)) (Mt_ex key I.km l I.lm (fn ls)), fun e => NM.of I (New_nx key l (e2 e)) (Mt_nx key I.km l I.lm (fn ls))⟩
theorem pair_gt (I : In key A c l As cs ls w) : ∃ b1 b2 r1 r2, MY o_gt key A c l w b1 ∧ MY o_lt key A c l w b2 ∧ (b1 = true → NM o_gt key A c l As cs ls w r1) ∧ (b2 = true → NM o_lt key A c l As cs ls w r2) ∧ (r1 && r2) = false := by
  obtain ⟨k1, b1, h1, e1⟩ := may_gt key I.hk l I.hl I.hx
  obtain ⟨k2, b2, h2, e2⟩ := may_lt key I.hk l I.hl I.hx
  by_cases h : ∃ x v, l = [x] ∧ whole x = some v
  · obtain ⟨x, v, rfl, hv⟩ := h
    have hxs : x.size ≤ 140737488351232 := by have := I.hxs x (by simp); omega
    exact ⟨b1, b2, gtA (fn ls) key v, ltA (fn ls) key v, MY.of I h1, MY.of I h2, fun e => NM.of I (New_gt key x hxs v hv) (Mt_gt key I.km x hxs v hv (fn ls) I.fsz), fun e => NM.of I (New_lt key x hxs v hv) (Mt_lt key I.km x hxs v hv (fn ls) I.fsz), gt_lt _ _ _⟩
  · exact ⟨b1, b2, false, false, MY.of I h1, MY.of I h2, fun e => absurd (e1 e) h, fun e => absurd (e2 e) h, rfl⟩
theorem last_three (I : In key A c l As cs ls w) : ∃ b r, MY o_eq key A c l w b ∧ (b = true → NM o_eq key A c l As cs ls w r) ∧ (b = true → NM o_eq2 key A c l As cs ls w r) ∧ (b = true → NM o_in key A c l As cs ls w r) := by
  obtain ⟨k1, b1, h1, e1⟩ := may_eq key I.hk l I.hl I.hx
  exact ⟨b1, inA (fn ls) key l, MY.of I h1, fun e => NM.of I (New_eq key l (e1 e)) (Mt_eq key I.km l I.lm (fn ls)), fun e => NM.of I (New_eq2 key l (e1 e)) (Mt_eq2 key I.km l I.lm (fn ls)), fun e => NM.of I (New_in key l (by have := e1 e; omega)) (Mt_in key I.km l I.lm (fn ls))⟩
end
theorem law_true (a0 : ByteArray) (A1 : Option Addr) (c1 : Nat) (l1 : List ByteArray) (A2 : Option Addr) (c2 : Nat) (l2 : List S35) (w : World) (hV : Vars.Vars w) (hr1 : Kd.string.C w A1 l1.length l1) (hc1 : l1.length ≤ c1) (hr2 : k35.C w A2 l2.length l2) (hc2 : l2.length ≤ c2)
    (hm : a0.size ≤ maxLen) (hx : ∀ x ∈ l1, x.size ≤ maxLen) (ho : ∀ p ∈ l2, p.f0.size ≤ maxLen ∧ p.f1.size ≤ maxLen) :
    Calls Tryd.prog 3 #[.string a0, .slice A1 l1.length c1, .slice A2 l2.length c2] w fun e w' => e = .returned (.bool true) ∧ Below w.heap.size w w' := by
  by_cases hk : a0.size ≤ 2147483647
  · obtain ⟨k4, b4, f4, g4⟩ := fits4_ev l1
    obtain ⟨k2, b2, f2, g2⟩ := fits2_ev l2
    by_cases hb : (b4 && b2) = true
    · obtain ⟨rfl, rfl⟩ : b4 = true ∧ b2 = true := by simpa using hb
      have I : In a0 A1 c1 l1 A2 c2 l2 w := ⟨hV, hk, hr1, hc1, g4 rfl, hx, fits4_say l1 k4 f4, fits2_say l2 k2 f2, hr2, g2 rfl, ho⟩
      obtain ⟨b01, b02, r0, m01, m02, n01, n02⟩ := pair_in I
      obtain ⟨b11, b12, r1, m11, m12, n11, n12⟩ := pair_eq I
      obtain ⟨b21, b22, r2, m21, m22, n21, n22⟩ := pair_ex I
      obtain ⟨b31, b32, r31, r32, m31, m32, n31, n32, q3⟩ := pair_gt I
      obtain ⟨b4, r4, m4, n41, n42, n43⟩ := last_three I
      exact law_c a0 hk A1 c1 l1 A2 c2 l2 w hr1 hc1 hr2 hc2 k4 k2 f4 f2 b01 b02 r0 (!r0) m01 m02 n01 n02 rfl b11 b12 r1 (!r1) m11 m12 n11 n12 rfl b21 b22 r2 (!r2) m21 m22 n21 n22 rfl b31 b32 r31 r32 m31 m32 n31 n32 q3 b4 r4 m4 n41 n42 n43
    · exact law_fits a0 hk A1 c1 l1 A2 c2 l2 w hr1 hc1 hr2 hc2 k4 k2 b4 b2 f4 f2 (by simpa using hb)
  · exact law_big a0 hk hm A1 c1 l1 A2 c2 l2 w
/-- The texts are texts. -/
def Ok (a0 : ByteArray) (l1 : List ByteArray) (l2 : List S35) : Prop := a0.size ≤ maxLen ∧ (∀ x ∈ l1, x.size ≤ maxLen) ∧ ∀ p ∈ l2, p.f0.size ≤ maxLen ∧ p.f1.size ≤ maxLen
instance okDec (a0 : ByteArray) (l1 : List ByteArray) (l2 : List S35) : Decidable (Ok a0 l1 l2) := by unfold Ok; infer_instance
def laws_FnNeedNot.f (a0 : ByteArray) (l1 : List ByteArray) (l2 : List S35) : Option Bool := if Ok a0 l1 l2 then some true else none
theorem laws_FnNeedNot.calls (a0 : ByteArray) (A1 : Option Addr) (c1 : Nat) (l1 : List ByteArray) (A2 : Option Addr) (c2 : Nat) (l2 : List S35) (r : Bool) (w : World) (hr1 : Kd.C Kd.string w A1 l1.length l1) (hc1 : l1.length ≤ c1) (hr2 : Kd.C k35 w A2 l2.length l2) (hc2 : l2.length ≤ c2) (h : laws_FnNeedNot.f a0 l1 l2 = some r) (hV : Vars.Vars w) :
    Calls Tryd.prog 3 #[.string a0, .slice A1 l1.length c1, .slice A2 l2.length c2] w fun e w' => e = .returned (.bool r) ∧ Below w.heap.size w w' := by
  unfold laws_FnNeedNot.f at h
  split at h
  · rename_i hq
    obtain rfl : true = r := by simpa using h
    exact law_true a0 A1 c1 l1 A2 c2 l2 w hV hr1 hc1 hr2 hc2 hq.1 hq.2.1 hq.2.2
  · cases h
end Go.Proofs.YtjlmhfciidfjiaaDoor.NdL
