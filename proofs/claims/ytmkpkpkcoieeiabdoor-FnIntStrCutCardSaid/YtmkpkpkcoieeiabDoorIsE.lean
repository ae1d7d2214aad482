/- IntOrString's Size, MarshalToSizedBuffer and Marshal walked. -/
import Derived.Test.YtmkpkpkcoieeiabDoorIsP
import Derived.Test.YtmkpkpkcoieeiabDoorIsU
import Derived.Laws.CopyOwn
import Derived.Deep.RegionLaw
import Derived.RegionTactic
set_option linter.unusedSimpArgs false
set_option linter.unusedVariables false
namespace Go.Proofs.YtmkpkpkcoieeiabDoor.IsE
open Go.RowKit Go.Proofs.YtmkpkpkcoieeiabDoorW.PrintWords Go.Proofs.YtmkpkpkcoieeiabDoorW.PrintLast Go.Proofs.YtmkpkpkcoieeiabDoor.IsM Go.Proofs.YtmkpkpkcoieeiabDoor.IsB Go.Proofs.YtmkpkpkcoieeiabDoor.IsP Go.Proofs.YtmkpkpkcoieeiabDoor.IsU Go.Proofs.YtmkpkpkcoieeiabDoor.XIs

theorem eql_nil (a : Addr) (W : World) : (binOp BinOp.eql 58 (.pointer (some a)) (.pointer none)).run Tryd.prog W = .ok (.bool false) W := by kernel_rfl
theorem copy_str {P : Program} (w : World) (dT sT ty elem : TypeId) (hu : P.underlying dT = some (.slice elem)) (hsz : (P.info? elem).map (·.size) = some 1) (dp : Option Addr) (dLen dCap : Nat) (S : ByteArray) (g off : Nat) (cur : List Value) (t : TypeId)
    (hg : w.heap[g]? = some (.cells cur.toArray t (0, 0))) (hn : S.size ≤ dLen) (hpos : 0 < S.size → dp = some ⟨g, off, none⟩) (hfit : off + S.size ≤ cur.length) :
    ∃ w', (Builtin.copy_ #[dT, sT] ty #[.slice dp dLen dCap, .string S]).run P w = .ok (goInt S.size) w' ∧ w'.heap[g]? = some (.cells (splice cur off (nums .u8 (bytesOf S))).toArray t (0, 0)) ∧ w.grownBy w' (some g) := by
  have hmin : Nat.min S.size dLen = S.size := Nat.min_eq_left hn
  have hex : (S.extract 0 S.size).data = S.data := by simp
  have hcs : List.take S.size (List.map (fun b => Value.int IntKind.u8 (b.toNat : Int)) S.data.toList) = nums .u8 (bytesOf S) := by
    rw [List.take_of_length_le (by simp)]; simp [nums, bytesOf]
  have hl : (nums .u8 (bytesOf S)).length = S.size := by rw [nums_length, bytesOf_length]
  cases hq : P.info? elem with
  | none => simp [hq] at hsz
  | some i =>
    have hi : i.size = 1 := by simpa [hq] using hsz
    by_cases h0 : S.size = 0
    · have hnil : nums .u8 (bytesOf S) = [] := List.eq_nil_of_length_eq_zero (by rw [hl, h0])
      refine ⟨w, ?_, by rw [hnil]; simpa [splice] using hg, World.grownBy.refl _ _⟩
      cases dp with
      | none => simp [Builtin.copy_, run_underlying hu, Builtin.lenOf, Builtin.firstCells, sizeOf, typeInfo, hq, hi, hmin]
      | some a => simp [Builtin.copy_, run_underlying hu, Builtin.lenOf, Builtin.firstCells, sizeOf, typeInfo, hq, hi, hmin, hex, hcs, hnil, storeCells]
    · obtain rfl := hpos (by omega)
      have hst := run_storeCells_at P g off t (nums .u8 (bytesOf S)) 0 cur.toArray w hg (by rw [hl]; simpa using hfit) (by intro v hv; simp [nums] at hv; obtain ⟨b, _, rfl⟩ := hv; rfl)
      refine ⟨_, by simp only [Builtin.copy_]; simp [run_underlying hu, Builtin.lenOf, Builtin.firstCells, sizeOf, typeInfo, hq, hi, hmin, hex, hcs]; rw [hst]; rfl, by simpa [splice] using setRow_heap w g _ _ t _ hg, ?_⟩
      exact ⟨rfl, rfl, rfl, by simp [World.setRow], fun k hk hne => setRow_other w g k _ (fun e => hne (by rw [e]))⟩
theorem step_copy_str {P : Program} {ops : Array Oper} {o : Oper} {a : Act} {w : World} {K : Act → World → Prop} {Q : Exit → Act → World → Prop} {E : Prop} (hgd : o.guard = none) (d s : Operand) (dT sT : TypeId)
    (ho : o.op = .call { callee := .builtin .copy, args := #[d, s], argTypes := #[dT, sT] }) (elem : TypeId) (hu : P.underlying dT = some (.slice elem)) (hsz : (P.info? elem).map (·.size) = some 1)
    (dp : Option Addr) (dLen dCap : Nat) (S : ByteArray) (hd : a.eval d = .slice dp dLen dCap) (hs : a.eval s = .string S)
    (g off : Nat) (cur : List Value) (t : TypeId) (hg : w.heap[g]? = some (.cells cur.toArray t (0, 0))) (hn : S.size ≤ dLen) (hpos : 0 < S.size → dp = some ⟨g, off, none⟩) (hfit : off + S.size ≤ cur.length)
    (h : ∀ w', RowKit.Hid (w'.heap[g]? = some (.cells (splice cur off (nums .u8 (bytesOf S))).toArray t (0, 0))) → RowKit.Hid (w.grownBy w' (some g)) → K (a.put o.dst (goInt S.size)) w') :
    if Region.wanted o (yielded ops a.tmps) = true then Oper.wp P o a w K Q else E := by
  have hw : Region.wanted o (yielded ops a.tmps) = true := by simp [Region.wanted, hgd]
  rw [if_pos hw]
  obtain ⟨w', hrun, h1, h2⟩ := copy_str (P := P) w dT sT o.type elem hu hsz dp dLen dCap S g off cur t hg hn hpos hfit
  unfold Oper.wp
  simp [execOp, ho, resolve, invoke, builtin, hd, hs, hrun, Result.andThen]
  exact h w' h1 h2

theorem sov (v : Nat) (hv : v < 18446744073709551616) (w : World) : Calls Tryd.prog 38 #[.int .u64 (v : Int)] w fun e w' => e = .returned (.int .i64 ((vl v : Nat) : Int)) ∧ Below w.heap.size w w' :=
  intstr_sovGenerated.calls 0 (v : Int) _ w (sov_ev 0 v hv)
/-- The three numbers of a value as bytes have them. -/
def Nums (t i : Int) (S : ByteArray) (x y : Nat) : Prop := IntKind.u64.wrap t = (x : Int) ∧ IntKind.u64.wrap i = (y : Int) ∧ x < 18446744073709551616 ∧ y < 18446744073709551616 ∧ S.size ≤ 2147483647
theorem IsO.below {w w1 : World} {g : Nat} {t i : Int} {S : ByteArray} (h : IsO w g t i S) (hb : Below w.heap.size w w1) : IsO w1 g t i S := (hb.block g (blk_lt h)).trans h
theorem ret_int {k : IntKind} {a b : Int} (h : a = b) : Ending.returned (.int k a) = .returned (.int k b) := by rw [h]
set_option maxHeartbeats 1000000 in
set_option maxRecDepth 100000 in
theorem size_calls (g x y : Nat) (t i : Int) (S : ByteArray) (w : World) (hO : IsO w g t i S) (hN : Nums t i S x y) :
    Calls Tryd.prog 28 #[.pointer (some ⟨g, 0, none⟩)] w fun e w' => e = .returned (.int .i64 ((p3 x y S.size + S.size : Nat) : Int)) ∧ Below w.heap.size w w' := by
  have hnil := eql_nil ⟨g, 0, none⟩
  have h0 : w.cell? ⟨g, 0, none⟩ = some (.int .i64 t) := (blk_cell hO 0).trans rfl
  obtain ⟨n1, n2, n3, n4, n5⟩ := hN
  obtain ⟨a, ha⟩ : ∃ a : Nat, a = vl x := ⟨_, rfl⟩
  obtain ⟨b, hb⟩ : ∃ b : Nat, b = vl y := ⟨_, rfl⟩
  obtain ⟨c, hc⟩ : ∃ c : Nat, c = vl S.size := ⟨_, rfl⟩
  have b3 : a ≤ 10 := by rw [ha]; exact vl_10 n3
  have b4 : b ≤ 10 := by rw [hb]; exact vl_10 n4
  have b5 : c ≤ 10 := by rw [hc]; exact vl_10 (lt_u _ n5)
  have s1 := Aside0.mk (fun w => ha ▸ sov x n3 w)
  have s2 := Aside0.mk (fun w => hb ▸ sov y n4 w)
  have s3 := Aside0.mk (fun w => hc ▸ sov S.size (lt_u _ n5) w)
  have hx := Aside0.mk (show p3 x y S.size + S.size = a + 1 + (b + 1) + (S.size + 1 + c) by unfold p3 p2 p1; omega)
  clear ha hb hc n3 n4
  have hO := Aside0.mk hO
  go_enter Tryd.func28, Tryd.ntmps28
  go_wp2_with fail
  refine (s1.out _).mono ?_
  rintro e w1 ⟨rfl, hB1⟩
  have hO1 := IsO.below hO.out hB1
  clear h0
  have h1 : w1.cell? ⟨g, 1, none⟩ = some (.int .i32 i) := (blk_cell hO1 1).trans rfl
  replace hO1 := Aside0.mk hO1
  replace hB1 := Aside0.mk hB1
  go_wp2_with fail
  refine (s2.out _).mono ?_
  rintro e w2 ⟨rfl, hB2⟩
  have hO2 := IsO.below hO1.out hB2
  clear h1
  have h2 : w2.cell? ⟨g, 2, none⟩ = some (.string S) := (blk_cell hO2 2).trans rfl
  replace hO2 := Aside0.mk hO2
  have hB2 := Aside0.mk (below_then hB1.out hB1.out.size hB2)
  have uz : IntKind.u64.wrap (S.size : Int) = (S.size : Int) := by rw [IntKind.wrap_u64]; omega
  go_wp2_with fail
  refine (s3.out _).mono ?_
  rintro e w3 ⟨rfl, hB3⟩
  clear uz
  go_wp2_with fail
  go_ret
  refine ⟨?_, below_then hB2.out hB2.out.size hB3⟩
  rw [hx.out]
  exact ret_int (by omega)

/-- A buffer: block b, n bytes. -/
def Bf (w : World) (base b n : Nat) (l : List Int) : Prop := l.length = n ∧ w.ownsRow base 5 1 (.slice (some ⟨b, 0, none⟩) n n) n (nums .u8 l)
theorem Bf.R {w : World} {base b n : Nat} {l : List Int} (h : Bf w base b n l) : Kd.R (Kd.int .u8) 5 w base (fun k => k = b) (.slice (some ⟨b, 0, none⟩) n n) l :=
  Kd.R_of_own (h1 := fun _ => rfl) (by have := h.2; rw [← h.1] at this ⊢; exact this) (fun k hk => by simp [Value.ownBlock] at hk; exact hk.symm)
theorem Bf.of_R {w : World} {base b n : Nat} {l : List Int} {ok : Nat → Prop} (h : Kd.R (Kd.int .u8) 5 w base ok (.slice (some ⟨b, 0, none⟩) n n) l) : Bf w base b n l := by
  have ho := Kd.own_of_R (h1 := fun _ => rfl) h
  have hl : l.length = n := by
    rcases ho.2 with ⟨h1, _⟩ | ⟨g, cap, cur, h1, _⟩
    · cases h1
    · injection h1 with _ h2 _; exact h2.symm
  refine ⟨hl, ?_⟩
  have h2 : w.ownsRow base 5 1 (.slice (some ⟨b, 0, none⟩) n n) l.length (nums .u8 l) := ho
  rwa [hl] at h2
theorem Bf.store {w : World} {base b n : Nat} {l : List Int} (h : Bf w base b n l) (j : Nat) (x : Int) : Bf (w.setCell ⟨b, j, none⟩ (.int .u8 x)) base b n (l.set j x) := by
  have := (own_store h.2 (j : Int) x).1
  rw [Int.toNat_natCast] at this
  exact ⟨by rw [List.length_set]; exact h.1, this⟩
theorem Bf.cell {w : World} {base b n : Nat} {l : List Int} (h : Bf w base b n l) (j : Nat) (hj : j < n) : w.cell? ⟨b, j, none⟩ = some (.int .u8 (rd l (j : Int))) ∧ w.frozen? ⟨b, j, none⟩ = false := by
  have := own_at h.2 (j : Int) (by omega) (by omega)
  rwa [Int.toNat_natCast] at this
theorem drop_spl {l R : List Int} {p : Nat} (h : l.drop p = R) (q : Nat) (a : List Int) (hq : q + a.length = p) (hp : p ≤ l.length) : (spl l q a).drop q = a ++ R := by
  unfold spl
  rw [hq, h, List.append_assoc, List.drop_left' (by rw [List.length_take]; omega)]
theorem drop_set {l R : List Int} {p q : Nat} (h : l.drop p = R) (b : Int) (hq : q + 1 = p) (hp : p ≤ l.length) : (l.set q b).drop q = b :: R := by
  rw [spl_one l q b (by omega)]
  exact drop_spl h q [b] hq hp
theorem splice_nums (l c : List Int) (p : Nat) : splice (nums .u8 l) p (nums .u8 c) = nums .u8 (spl l p c) := by
  simp [splice, spl, nums, List.map_take, List.map_drop]
theorem Bf.of_blk {w : World} {base b n : Nat} {l : List Int} (h : w.heap[b]? = some (.cells (nums .u8 l).toArray 5 (0, 0))) (hl : l.length = n) (hb : base ≤ b) (hn : n ≤ 4294967296) : Bf w base b n l :=
  ⟨hl, by simp [nums, hl], .inr ⟨b, n, _, rfl, hb, h, Nat.le_refl _, by unfold maxLen; omega, by simp [nums, hl], by rw [List.take_of_length_le (by simp [nums, hl])]⟩⟩
theorem IsO.grown {w w1 : World} {g b : Nat} {t i : Int} {S : ByteArray} (h : IsO w g t i S) (hg : w.grownBy w1 (some b)) (hne : g ≠ b) : IsO w1 g t i S := blk_grown h hg (by simp [hne])
theorem IsO.kept {w w1 : World} {g b : Nat} {t i : Int} {S : ByteArray} (h : IsO w g t i S) (hk : Kept w w1 (fun k => k = b)) (hne : g ≠ b) : IsO w1 g t i S := blk_kept h hk hne
theorem IsO.far {w : World} {g b : Nat} {t i : Int} {S : ByteArray} (h : IsO w g t i S) (hne : g ≠ b) (j : Nat) (u : Value) : IsO (w.setCell ⟨b, j, none⟩ u) g t i S := blk_far h (p := ⟨b, j, none⟩) hne u
theorem below_store {B b : Nat} {w0 w : World} (h : Below B w0 w) (hb : B ≤ b) (j : Nat) (u : Value) : Below B w0 (w.setCell ⟨b, j, none⟩ u) := h.setCell (p := ⟨b, j, none⟩) hb u
set_option maxHeartbeats 4000000 in
set_option maxRecDepth 100000 in
theorem mtsb_calls (g b n x y : Nat) (t i : Int) (S : ByteArray) (w0 w : World) (hB0 : Below w0.heap.size w0 w) (hO : IsO w g t i S) (hN : Nums t i S x y) (hn : n = p3 x y S.size + S.size) (hb0 : w0.heap.size ≤ b)
    (hb : w.heap[b]? = some (.cells (nums .u8 (List.replicate n 0)).toArray 5 (0, 0))) :
    Calls Tryd.prog 35 #[.pointer (some ⟨g, 0, none⟩), .slice (some ⟨b, 0, none⟩) n n] w fun e w' => e = .returned (.tuple #[.int .i64 (n : Int), .nilIface]) ∧ Bf w' w0.heap.size b n ((wire x y (S.data.toList.map (·.toNat))).map (fun v : Nat => (v : Int))) ∧ Below w0.heap.size w0 w' := by
  have h2 : w.cell? ⟨g, 2, none⟩ = some (.string S) := (blk_cell hO 2).trans rfl
  obtain ⟨n1, n2, n3, n4, n5⟩ := hN
  obtain ⟨P3, hP3⟩ : ∃ p : Nat, p = p3 x y S.size := ⟨_, rfl⟩
  have e1 : (n : Int) - (S.size : Int) = (P3 : Int) := by omega
  have e2 : P3 ≤ n := by omega
  have e3 : S.size ≤ n - P3 := by omega
  have n30 : n ≤ 4294967296 := by
    have := vl_10 n3; have := vl_10 n4; have := vl_10 (lt_u _ n5)
    rw [hn]; unfold p3 p2 p1; omega
  replace hO := Aside0.mk hO
  replace hb := Aside0.mk hb
  replace hB0 := Aside0.mk hB0
  have n3 := Aside0.mk n3
  have hpos := Aside0.mk (show 0 < S.size → (if n = P3 then some (⟨b, 0, none⟩ : Addr) else some ⟨b, P3, none⟩) = some ⟨b, P3, none⟩ from fun h => if_neg (by omega))
  replace hn := Aside0.mk hn
  replace hP3 := Aside0.mk hP3
  have hlr : (nums .u8 (List.replicate n 0)).length = n := by rw [nums_length, List.length_replicate]
  obtain ⟨cur, hcur⟩ : ∃ cur, cur = nums .u8 (List.replicate n 0) := ⟨_, rfl⟩
  rw [← hcur] at hb hlr
  have hfit : P3 + S.size ≤ cur.length := by rw [hlr]; omega
  replace hlr := Aside0.mk hlr
  replace hcur := Aside0.mk hcur
  have hi5 : (Tryd.prog.info? 5).map (·.size) = some 1 := by kernel_rfl
  go_enter Tryd.func35, Tryd.ntmps35
  go_wp2_with fail
  go_region_law (refine step_copy_str rfl (.tmp 21) (.tmp 25) 27 9 rfl 5 Tryd.underlying27 hi5 _ (n - P3) (n - P3) S rfl rfl b P3 cur 5 hb.out e3 hpos.out hfit ?_; intro w1 hc1 hg1)
  have hne := Aside0.mk (blk_ne hO.out hb.out (by decide))
  obtain ⟨l1, hl1⟩ : ∃ l, l = spl (List.replicate n 0) P3 (bytesOf S) := ⟨_, rfl⟩
  have hn1 : l1.length = n := by rw [hl1, len_spl _ _ _ (by rw [bytesOf_length, List.length_replicate]; omega), List.length_replicate]
  have hd1 : l1.drop P3 = bytesOf S := by
    rw [hl1, drop_spl (R := []) (p := n) (by simp) P3 (bytesOf S) (by rw [bytesOf_length]; have := hn.out; have := hP3.out; omega) (by simp)]
    simp
  have hF1 : Bf w1 w0.heap.size b n l1 := by
    refine Bf.of_blk ?_ hn1 hb0 n30
    have h := hc1.out
    rw [hcur.out, splice_nums, ← hl1] at h
    exact h
  have hO1 := IsO.grown (show IsO w.drew g t i S from hO.out) hg1.out hne.out
  have hB1 : Below w0.heap.size w0 w1 := pw_below_grown (below_drew hB0.out) (some b) hB0.out.size hg1.out (fun k hk => by cases hk; exact hb0)
  have h2 : w1.cell? ⟨g, 2, none⟩ = some (.string S) := (blk_cell hO1 2).trans rfl
  replace hd1 := Aside0.mk hd1
  replace hF1 := Aside0.mk hF1
  replace hO1 := Aside0.mk hO1
  replace hB1 := Aside0.mk hB1
  replace hn1 := Aside0.mk hn1
  clear hl1 hc1 hg1
  have uz : IntKind.u64.wrap (S.size : Int) = (S.size : Int) := by rw [IntKind.wrap_u64]; omega
  generalize (if n = P3 then some (⟨b, 0, none⟩ : Addr) else some ⟨b, P3, none⟩) = dead
  go_wp2_with fail
  clear h2 uz
  obtain ⟨q3, hq3⟩ : ∃ q : Nat, q = p2 x y + 1 := ⟨_, rfl⟩
  obtain ⟨P2, hP2⟩ : ∃ q : Nat, q = p2 x y := ⟨_, rfl⟩
  obtain ⟨q2, hq2⟩ : ∃ q : Nat, q = p1 x + 1 := ⟨_, rfl⟩
  obtain ⟨P1, hP1⟩ : ∃ q : Nat, q = p1 x := ⟨_, rfl⟩
  have a3 : P3 = q3 + vl S.size := by have := hP3.out; unfold p3 at this; omega
  have a2 : P2 = q2 + vl y := by unfold p2 at hP2; omega
  obtain ⟨q1, hq1⟩ : ∃ q : Nat, q = 1 := ⟨_, rfl⟩
  obtain ⟨P0, hP0⟩ : ∃ q : Nat, q = 0 := ⟨_, rfl⟩
  have a1 : P1 = q1 + vl x := by unfold p1 at hP1; omega
  have hq := Aside0.mk (show (P3 = q3 + vl S.size) ∧ (P2 = q2 + vl y) ∧ (P1 = q1 + vl x) ∧ q3 = P2 + 1 ∧ q2 = P1 + 1 ∧ q1 = 1 ∧ P0 = 0 by omega)
  clear a3 a2 a1 hq3 hP2 hq2 hP1 hq1 hP0
  obtain ⟨k2, hk2⟩ := enc_ev S.size q3 (lt_u _ n5) l1 (by rw [hn1.out]; have := hq.out; have := hn.out; omega) (by rw [hn1.out]; omega)
  rw [← hq.out.1] at hk2
  refine (intstr_encodeVarintGenerated.calls k2 (fun k => k = b) _ l1 _ _ _ _ w0 _ hB1.out hF1.out.R hk2).mono ?_
  rintro e w2 ⟨rfl, hR, hB, hK⟩
  have hF := Bf.of_R hR
  have hd := drop_spl hd1.out q3 (vi S.size) (by rw [vi_length]; have := hq.out; omega) (by rw [hn1.out]; have := hq.out; have := hn.out; omega)
  have hO := IsO.kept hO1.out hK hne.out
  have g2 : (q3 : Int) - 1 = (P2 : Int) := by have := hq.out; omega
  have r2 : (P2 < n) = True := eq_true (by have := hq.out; have := hn.out; omega)
  have r2' : decide ((P2 : Int) < (n : Int)) = true := decide_eq_true (by have := hq.out; have := hn.out; omega)
  have pb2 : P2 ≤ 4294967296 := by have := hq.out; have := hn.out; omega
  obtain ⟨cc2, cf2⟩ := hF.cell P2 (by have := hq.out; have := hn.out; omega)
  have hx2 := Aside0.mk (IsO.far hO hne.out P2 (.int .u8 26))
  have hF2 := Aside0.mk (hF.store P2 26)
  have hB2 := Aside0.mk (below_store hB hb0 P2 (.int .u8 26))
  have hd2 := Aside0.mk (drop_set hd 26 (q := P2) (by have := hq.out; omega) (by rw [hF.1]; have := hq.out; have := hn.out; omega))
  obtain ⟨l2, hl2⟩ : ∃ l, l = (spl l1 q3 (vi S.size)).set P2 26 := ⟨_, rfl⟩
  rw [← hl2] at hF2 hd2
  have hn2 := Aside0.mk hF2.out.1
  have h2 : (w2.setCell ⟨b, P2, none⟩ (.int .u8 26)).cell? ⟨g, 1, none⟩ = some (.int .i32 i) := (blk_cell hx2.out 1).trans rfl
  have h2' : w2.cell? ⟨g, 1, none⟩ = some (.int .i32 i) := (blk_cell hO 1).trans rfl
  have hO2 := hx2
  clear hR hB hK hF hd hl2 hk2 hx2 hO
  go_wp2_with fail
  clear h2 h2' g2 r2 r2' cc2 cf2
  obtain ⟨k3, hk3⟩ := enc_ev y q2 n4 l2 (by rw [hn2.out]; have := hq.out; have := hn.out; omega) (by rw [hn2.out]; omega)
  rw [← hq.out.2.1] at hk3
  refine (intstr_encodeVarintGenerated.calls k3 (fun k => k = b) _ l2 _ _ _ _ w0 _ hB2.out hF2.out.R hk3).mono ?_
  rintro e w3 ⟨rfl, hR, hB, hK⟩
  have hF := Bf.of_R hR
  have hd := drop_spl hd2.out q2 (vi y) (by rw [vi_length]; have := hq.out; omega) (by rw [hn2.out]; have := hq.out; have := hn.out; omega)
  have hO := IsO.kept hO2.out hK hne.out
  have g3 : (q2 : Int) - 1 = (P1 : Int) := by have := hq.out; omega
  have r3 : (P1 < n) = True := eq_true (by have := hq.out; have := hn.out; omega)
  have r3' : decide ((P1 : Int) < (n : Int)) = true := decide_eq_true (by have := hq.out; have := hn.out; omega)
  have pb3 : P1 ≤ 4294967296 := by have := hq.out; have := hn.out; omega
  obtain ⟨cc3, cf3⟩ := hF.cell P1 (by have := hq.out; have := hn.out; omega)
  have hx3 := Aside0.mk (IsO.far hO hne.out P1 (.int .u8 16))
  have hF3 := Aside0.mk (hF.store P1 16)
  have hB3 := Aside0.mk (below_store hB hb0 P1 (.int .u8 16))
  have hd3 := Aside0.mk (drop_set hd 16 (q := P1) (by have := hq.out; omega) (by rw [hF.1]; have := hq.out; have := hn.out; omega))
  obtain ⟨l3, hl3⟩ : ∃ l, l = (spl l2 q2 (vi y)).set P1 16 := ⟨_, rfl⟩
  rw [← hl3] at hF3 hd3
  have hn3 := Aside0.mk hF3.out.1
  have h3 : (w3.setCell ⟨b, P1, none⟩ (.int .u8 16)).cell? ⟨g, 0, none⟩ = some (.int .i64 t) := (blk_cell hx3.out 0).trans rfl
  have h3' : w3.cell? ⟨g, 0, none⟩ = some (.int .i64 t) := (blk_cell hO 0).trans rfl
  have hO3 := hx3
  clear hR hB hK hF hd hl3 hk3 hx3 hO
  go_wp2_with fail
  clear h3 h3' g3 r3 r3' cc3 cf3
  obtain ⟨k4, hk4⟩ := enc_ev x q1 n3.out l3 (by rw [hn3.out]; have := hq.out; have := hn.out; omega) (by rw [hn3.out]; omega)
  rw [← hq.out.2.2.1] at hk4
  refine (intstr_encodeVarintGenerated.calls k4 (fun k => k = b) _ l3 _ _ _ _ w0 _ hB3.out hF3.out.R hk4).mono ?_
  rintro e w4 ⟨rfl, hR, hB, hK⟩
  have hF := Bf.of_R hR
  have hd := drop_spl hd3.out q1 (vi x) (by rw [vi_length]; have := hq.out; omega) (by rw [hn3.out]; have := hq.out; have := hn.out; omega)
  have hO := IsO.kept hO3.out hK hne.out
  have g4 : (q1 : Int) - 1 = (P0 : Int) := by have := hq.out; omega
  have r4 : (P0 < n) = True := eq_true (by have := hq.out; have := hn.out; omega)
  have r4' : decide ((P0 : Int) < (n : Int)) = true := decide_eq_true (by have := hq.out; have := hn.out; omega)
  have pb4 : P0 ≤ 4294967296 := by have := hq.out; have := hn.out; omega
  obtain ⟨cc4, cf4⟩ := hF.cell P0 (by have := hq.out; have := hn.out; omega)
  have hx4 := Aside0.mk (IsO.far hO hne.out P0 (.int .u8 8))
  have hF4 := Aside0.mk (hF.store P0 8)
  have hB4 := Aside0.mk (below_store hB hb0 P0 (.int .u8 8))
  have hd4 := Aside0.mk (drop_set hd 8 (q := P0) (by have := hq.out; omega) (by rw [hF.1]; have := hq.out; have := hn.out; omega))
  obtain ⟨l4, hl4⟩ : ∃ l, l = (spl l3 q1 (vi x)).set P0 8 := ⟨_, rfl⟩
  rw [← hl4] at hF4 hd4
  have hn4 := Aside0.mk hF4.out.1
  have hO4 := hx4
  clear hR hB hK hF hd hl4 hk4 hx4 hO
  have gn : (n : Int) - (P0 : Int) = (n : Int) := by have := hq.out; omega
  go_wp2_with fail
  refine bodyPost_ret (results_list (rs := [.tmp 4, .tmp 5]) rfl (by simp) (.tmp (.tmp .nil))) rfl ?_
  refine ⟨rfl, ?_, hB4.out⟩
  have e : l4 = ((wire x y (S.data.toList.map (·.toNat))).map (fun v : Nat => (v : Int))) := by
    have h := hd4.out
    rw [hq.out.2.2.2.2.2.2, List.drop_zero] at h
    rw [h]
    simp [wire, vi, bytesOf]
  rw [← e]
  exact hF4.out
end Go.Proofs.YtmkpkpkcoieeiabDoor.IsE
