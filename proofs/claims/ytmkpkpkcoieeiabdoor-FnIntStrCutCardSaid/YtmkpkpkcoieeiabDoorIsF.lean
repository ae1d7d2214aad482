/- IntOrString's Marshal walked; the thin package's three functions; the reference's bytes. -/
import Derived.Test.YtmkpkpkcoieeiabDoorIsE
set_option linter.unusedSimpArgs false
set_option linter.unusedVariables false
namespace Go.Proofs.YtmkpkpkcoieeiabDoor.IsF
open Go.RowKit Go.Proofs.YtmkpkpkcoieeiabDoorW.PrintWords Go.Proofs.YtmkpkpkcoieeiabDoorW.PrintLast Go.Proofs.YtmkpkpkcoieeiabDoor.IsM Go.Proofs.YtmkpkpkcoieeiabDoor.IsB Go.Proofs.YtmkpkpkcoieeiabDoor.IsP Go.Proofs.YtmkpkpkcoieeiabDoor.IsU Go.Proofs.YtmkpkpkcoieeiabDoor.XIs Go.Proofs.YtmkpkpkcoieeiabDoor.IsE
/-- A value's bytes. -/
def WL (x y : Nat) (S : ByteArray) : List Int := (wire x y (S.data.toList.map (·.toNat))).map (fun v : Nat => (v : Int))
theorem WL_length (x y : Nat) (S : ByteArray) : (WL x y S).length = p3 x y S.size + S.size := by
  simp [WL, wire_length]
theorem made (n : Nat) : madeCells #[Value.int IntKind.u8 0] n = (nums .u8 (List.replicate n 0)).toArray := by
  apply Array.ext'
  apply List.ext_getElem
  · simp [nums, madeCells]
  · intro i h1 h2
    simp [nums, madeCells, Nat.mod_one]
theorem le_of {x y : Nat} {S : ByteArray} {t i : Int} (hN : Nums t i S x y) : p3 x y S.size + S.size ≤ 4294967296 := by
  obtain ⟨n1, n2, n3, n4, n5⟩ := hN
  have := vl_10 n3; have := vl_10 n4; have := vl_10 (lt_u _ n5)
  unfold p3 p2 p1; omega
set_option maxHeartbeats 1000000 in
set_option maxRecDepth 100000 in
theorem marshal_calls (g x y : Nat) (t i : Int) (S : ByteArray) (w : World) (hO : IsO w g t i S) (hN : Nums t i S x y) :
    Calls Tryd.prog 26 #[.pointer (some ⟨g, 0, none⟩)] w fun e w' => ∃ b n : Nat, e = .returned (.tuple #[.slice (some ⟨b, 0, none⟩) n n, .nilIface]) ∧ Bf w' w.heap.size b n (WL x y S) ∧ Below w.heap.size w w' := by
  have hle := le_of hN
  obtain ⟨n, hn⟩ : ∃ n : Nat, n = p3 x y S.size + S.size := ⟨_, rfl⟩
  have hz := Aside0.mk (hn ▸ size_calls g x y t i S w hO hN)
  rw [← hn] at hle
  replace hn := Aside0.mk hn
  replace hO := Aside0.mk hO
  replace hN := Aside0.mk hN
  have hmk := print_make (P := Tryd.prog) 27 5 .u8 1 Tryd.underlying27 (by kernel_rfl) (by omega) n (by omega)
  go_enter Tryd.func26, Tryd.ntmps26
  go_wp2_with fail
  refine hz.out.mono ?_
  rintro e w1 ⟨rfl, hB1⟩
  have hO1 := IsO.below hO.out hB1
  obtain ⟨w2, hw2⟩ : ∃ w2, w2 = w1.alloc (.cells (madeCells #[.int .u8 0] n) 5) := ⟨_, rfl⟩
  have hb2 : w2.heap[w1.heap.size]? = some (.cells (nums .u8 (List.replicate n 0)).toArray 5 (0, 0)) := by rw [hw2, made]; exact heap_alloc_new w1 _
  have hB2 : Below w.heap.size w w2 := by rw [hw2]; exact below_alloc hB1 _
  have hO2 : IsO w2 g t i S := by rw [hw2]; exact IsO.below hO1 (below_alloc (Below.refl _ _) _)
  have hs := hB1.size
  replace hmk : (Instr.makeSlice 27 (.int .i64 (n : Int)) (.int .i64 (n : Int))).run Tryd.prog w1 = .ok (.slice (some ⟨w1.heap.size, 0, none⟩) n n) w2 := by rw [hw2]; exact hmk w1
  replace hw2 := Aside0.mk hw2
  have hm := Aside0.mk (mtsb_calls g w1.heap.size n x y t i S w w2 hB2 hO2 hN.out hn.out hs hb2)
  clear hO1 hb2 hB2 hO2 hB1
  replace hs := Aside0.mk hs
  go_wp2_with fail
  refine hm.out.mono ?_
  rintro e w3 ⟨rfl, hF, hB3⟩
  replace hF := Aside0.mk hF
  replace hB3 := Aside0.mk hB3
  clear hmk
  go_wp2_with fail
  refine bodyPost_ret (results_list (rs := [.tmp 2, .tmp 3]) rfl (by simp) (.tmp (.tmp .nil))) rfl ?_
  exact ⟨_, _, rfl, hF.out, hB3.out⟩
theorem _root_.Go.Proofs.YtmkpkpkcoieeiabDoor.IsE.Bf.lower {w : World} {base base' b n : Nat} {l : List Int} (h : Bf w base b n l) (hb : base' ≤ base) : Bf w base' b n l := by
  obtain ⟨h1, h2, h3⟩ := h
  refine ⟨h1, h2, ?_⟩
  rcases h3 with h3 | ⟨g, cap, cur, e, hg, h4⟩
  · exact .inl h3
  · exact .inr ⟨g, cap, cur, e, Nat.le_trans hb hg, h4⟩
/-- What a value of the thin package's is. -/
def VIn (t i : Int) (S : ByteArray) : Prop := -9223372036854775808 ≤ t ∧ t ≤ 9223372036854775807 ∧ -2147483648 ≤ i ∧ i ≤ 2147483647 ∧ S.size ≤ 2147483647
def nx (t : Int) : Nat := (IntKind.u64.wrap t).toNat
theorem nums_of {t i : Int} {S : ByteArray} (h : VIn t i S) : Nums t i S (nx t) (nx i) := by
  obtain ⟨h1, h2, h3, h4, h5⟩ := h
  refine ⟨?_, ?_, ?_, ?_, h5⟩ <;> unfold nx <;> rw [IntKind.wrap_u64] <;> omega
set_option maxHeartbeats 1000000 in
set_option maxRecDepth 100000 in
theorem implMarshal (t i : Int) (S : ByteArray) (w : World) (h : VIn t i S) :
    Calls Tryd.prog 15 #[.agg #[.int .i64 t, .int .i32 i, .string S]] w fun e w' => ∃ b n : Nat, e = .returned (.tuple #[.slice (some ⟨b, 0, none⟩) n n, .bool true]) ∧ Bf w' w.heap.size b n (WL (nx t) (nx i) S) ∧ Below w.heap.size w w' := by
  have hN := Aside0.mk (nums_of h)
  clear h
  go_enter Tryd.func15, Tryd.ntmps15
  go_wp2_with fail
  refine (impl_intStr.calls t i S t i S w _ (below_alloc (Below.refl _ _) _) rfl).mono ?_
  rintro e w1 ⟨g, rfl, hS, hB1, _⟩
  have hS := Aside0.mk (show IsO w1 g t i S from hS.1)
  replace hB1 := Aside0.mk hB1
  go_wp2_with fail
  refine (marshal_calls g _ _ t i S _ hS.out hN.out).mono ?_
  rintro e w2 ⟨b, n, rfl, hF, hB2⟩
  have hF := Aside0.mk (hF.lower hB1.out.size)
  have hB2 := Aside0.mk (below_then hB1.out hB1.out.size hB2)
  go_wp2_with fail
  go_quiet (fail)
  go_wp2
  refine bodyPost_ret (results_list (rs := [.tmp 2, .tmp 3]) rfl (by simp) (.tmp (.tmp .nil))) rfl ?_
  exact ⟨b, n, rfl, hF.out, pw_below_drewN hB2.out _⟩
set_option maxHeartbeats 1000000 in
set_option maxRecDepth 100000 in
theorem implSize (t i : Int) (S : ByteArray) (w : World) (h : VIn t i S) :
    Calls Tryd.prog 17 #[.agg #[.int .i64 t, .int .i32 i, .string S]] w fun e w' => e = .returned (.int .i64 ((p3 (nx t) (nx i) S.size + S.size : Nat) : Int)) ∧ Below w.heap.size w w' := by
  have hN := Aside0.mk (nums_of h)
  clear h
  obtain ⟨m, hm⟩ : ∃ m : Nat, m = p3 (nx t) (nx i) S.size + S.size := ⟨_, rfl⟩
  rw [← hm]
  replace hm := Aside0.mk hm
  go_enter Tryd.func17, Tryd.ntmps17
  go_wp2_with fail
  refine (impl_intStr.calls t i S t i S w _ (below_alloc (Below.refl _ _) _) rfl).mono ?_
  rintro e w1 ⟨g, rfl, hS, hB1, _⟩
  have hS := Aside0.mk (show IsO w1 g t i S from hS.1)
  replace hB1 := Aside0.mk hB1
  go_wp2_with fail
  refine (hm.out ▸ size_calls g _ _ t i S _ hS.out hN.out).mono ?_
  rintro e w2 ⟨rfl, hB2⟩
  have hB2 := Aside0.mk (below_then hB1.out hB1.out.size hB2)
  go_wp2_with fail
  go_ret
  exact ⟨rfl, hB2.out⟩
theorem VE.below {w w1 : World} (h : VE w) (hb : Below w.heap.size w w1) : VE w1 := by
  obtain ⟨t, p, hc⟩ := h
  exact ⟨t, p, pw_cell_below hb hc⟩
/-- How the thin package's reading ends. -/
def UEnd (r : Option (Int × Int × ByteArray)) (e : Ending) : Prop := match r with
  | some (T, I, Z) => e = .returned (.tuple #[.agg #[.int .i64 T, .int .i32 I, .string Z], .bool true])
  | none => e = .returned (.tuple #[.agg #[.int .i64 0, .int .i32 0, .string E0], .bool false])
set_option maxHeartbeats 2000000 in
set_option maxRecDepth 100000 in
theorem implUnm (A : Option Addr) (c : Nat) (L : List Int) (x y : Nat) (S : ByteArray) (w : World) (hr : (Kd.int .u8).C w A L.length L) (hc : L.length ≤ c) (hV : VE w) (hx : x < 18446744073709551616) (hy : y < 18446744073709551616) (hS : S.size ≤ 2147483647) (hL : L = (WL x y S).take L.length) (hn : L.length ≤ 4294967296) :
    Calls Tryd.prog 16 #[.slice A L.length c] w fun e w' => UEnd (Res x y (S.data.toList.map (·.toNat)) S L.length) e ∧ Below w.heap.size w w' := by
  replace hr := Aside0.mk hr
  replace hV := Aside0.mk hV
  replace hL := Aside0.mk hL
  replace hx := Aside0.mk hx
  replace hy := Aside0.mk hy
  replace hc := Aside0.mk hc
  obtain ⟨n, hnn⟩ : ∃ n : Nat, n = L.length := ⟨_, rfl⟩
  replace hnn := Aside0.mk hnn
  have hHO : (((w.alloc (.cells #[.int .i64 0, .int .i32 0, .string ⟨#[]⟩] 34)).alloc (.cells #[.int .i64 0, .int .i32 0, .string ⟨#[]⟩] 63)).alloc (.cells #[] 5)).ownsRow w.heap.size 5 1 (.slice (some ⟨w.heap.size + 1 + 1, 0, none⟩) 0 0) ([] : List Int).length (nums .u8 []) := by
    have h := own_lit ((w.alloc (.cells #[.int .i64 0, .int .i32 0, .string ⟨#[]⟩] 34)).alloc (.cells #[.int .i64 0, .int .i32 0, .string ⟨#[]⟩] 63)) w.heap.size 5 .u8 [] (by simp; omega) (by simp)
    rw [show (nums .u8 ([] : List Int)).toArray = #[] from rfl] at h
    simpa using h
  have hBa : Below w.heap.size w (((w.alloc (.cells #[.int .i64 0, .int .i32 0, .string ⟨#[]⟩] 34)).alloc (.cells #[.int .i64 0, .int .i32 0, .string ⟨#[]⟩] 63)).alloc (.cells #[] 5)) := below_alloc (below_alloc (below_alloc (Below.refl _ _) _) _) _
  have hRa := (show ReadsInt _ .u8 A L.length L from Kd.reads_of_C (h1 := fun _ => rfl) (Kd.C_below hr.out hBa))
  have hr34 : (((w.alloc (.cells #[.int .i64 0, .int .i32 0, .string ⟨#[]⟩] 34)).alloc (.cells #[.int .i64 0, .int .i32 0, .string ⟨#[]⟩] 63)).alloc (.cells #[] 5)).heap[w.heap.size]? = some (.cells #[.int .i64 0, .int .i32 0, .string ⟨#[]⟩] 34 (0, 0)) := by
    rw [Below.heap_alloc _ _ _ (by rw [World.size_alloc, World.size_alloc]; omega), Below.heap_alloc _ _ _ (by rw [World.size_alloc]; omega)]; exact heap_alloc_new w _
  have hr63 : IsO (((w.alloc (.cells #[.int .i64 0, .int .i32 0, .string ⟨#[]⟩] 34)).alloc (.cells #[.int .i64 0, .int .i32 0, .string ⟨#[]⟩] 63)).alloc (.cells #[] 5)) (w.heap.size + 1) 0 0 E0 := by
    unfold IsO
    rw [Below.heap_alloc _ _ _ (by rw [World.size_alloc, World.size_alloc]; omega)]
    have h := heap_alloc_new (w.alloc (.cells #[.int .i64 0, .int .i32 0, .string ⟨#[]⟩] 34)) (.cells #[.int .i64 0, .int .i32 0, .string ⟨#[]⟩] 63)
    simpa using h
  replace hHO := Aside0.mk hHO
  replace hBa := Aside0.mk hBa
  replace hRa := Aside0.mk hRa
  replace hr34 := Aside0.mk hr34
  replace hr63 := Aside0.mk hr63
  have hl0 : ([] : List Int).length + L.length ≤ 140737488355328 := by simp; omega
  go_enter Tryd.func16, Tryd.ntmps16
  go_wp2_with (at_builtin; refine print_append_row (w0 := w) w.heap.size rfl (.tmp 5) (.tmp 6) 27 5 .u8 1 rfl Tryd.underlying27 (by kernel_rfl) (by omega) (.slice (some ⟨w.heap.size + 1 + 1, 0, none⟩) 0 0) [] L A L.length c rfl rfl hHO.out hRa.out hBa.out hBa.out.size (by omega) ?_; intro v1 w1 ho hb hg _)
  replace hg := Aside0.mk hg
  replace hb := Aside0.mk hb
  have hO1 := Aside0.mk (IsO.grown (b := w.heap.size + 1 + 1) hr63.out hg.out (by omega))
  have h34 : w1.heap[w.heap.size]? = some (.cells #[.int .i64 0, .int .i32 0, .string ⟨#[]⟩] 34 (0, 0)) := blk_grown hr34.out hg.out (row := some (w.heap.size + 1 + 1)) (by simp; omega)
  replace h34 := Aside0.mk h34
  rw [List.nil_append] at ho
  obtain ⟨A1, c1, e1, hc1, hC1⟩ := Kd.R_reads (Kd.R_of_own (h1 := fun _ => rfl) (ok := fun _ => True) ho (fun _ _ => trivial))
  subst e1
  have hV1 := VE.below hV.out hb.out
  have hlen : L.length ≤ (wire x y (S.data.toList.map (·.toNat))).length := by
    have h := congrArg List.length hL.out
    rw [List.length_take, WL_length] at h
    rw [wire_length, List.length_map, data_length]
    omega
  have hLL : ∀ i v, i < L.length → (wire x y (S.data.toList.map (·.toNat)))[i]? = some v → rd L i = (v : Int) := by
    intro i v hi hv
    have h : L[i]? = (WL x y S)[i]? := by
      have h := congrArg (fun l => l[i]?) hL.out
      simp only [List.getElem?_take] at h
      rw [h, if_pos hi]
    have h2 : (WL x y S)[i]? = some (v : Int) := by unfold WL; rw [List.getElem?_map, hv]; rfl
    rw [h2] at h
    simp [rd, h]
  have hu := Aside0.mk (unm A1 L.length c1 x y (S.data.toList.map (·.toNat)) S L (w.heap.size + 1) w1 hC1 hc1 hn hO1.out hV1 hx.out hy.out (by simpa using hS) rfl hLL hlen)
  clear ho hC1 hc1 hV1 hlen hLL
  obtain ⟨r, hr0⟩ : ∃ r, r = Res x y (S.data.toList.map (·.toNat)) S L.length := ⟨_, rfl⟩
  rw [← hr0] at hu
  replace hr0 := Aside0.mk hr0
  refine hu.out.mono ?_
  rintro e w2 ⟨hg2, hU⟩
  have h34 : w2.heap[w.heap.size]? = some (.cells #[.int .i64 0, .int .i32 0, .string ⟨#[]⟩] 34 (0, 0)) := blk_grown h34.out hg2 (by simp)
  have hB2 := Aside0.mk (pw_below_grown hb.out (some (w.heap.size + 1)) hb.out.size hg2 (fun k hk => by cases hk; omega))
  have f0 : w2.cell? ⟨w.heap.size, 0, none⟩ = some (.int .i64 0) := (blk_cell h34 0).trans rfl
  have f1 : w2.cell? ⟨w.heap.size, 1, none⟩ = some (.int .i32 0) := (blk_cell h34 1).trans rfl
  have f2 : w2.cell? ⟨w.heap.size, 2, none⟩ = some (.string ⟨#[]⟩) := (blk_cell h34 2).trans rfl
  have f3 := blk_frozen h34 0
  have f4 := blk_frozen h34 1
  have f5 := blk_frozen h34 2
  replace h34 := Aside0.mk h34
  clear hg2
  cases r with
  | none =>
    obtain ⟨tt, pp, rfl⟩ := hU
    go_wp2_with fail
    refine bodyPost_ret (results_list (rs := [.cell 2 34, .tmp 3]) rfl (by simp) (.cell w.heap.size 34 _ (0, 0) _ rfl (blk_set (blk_set (blk_set h34.out 0 (.int .i64 0)) 1 (.int .i32 0)) 2 (.string ⟨#[]⟩)) Tryd.underlying34 rfl (by kernel_rfl) (.tmp .nil))) rfl ?_
    refine ⟨?_, below_set (below_set (below_set hB2.out (Nat.le_refl _)) (Nat.le_refl _)) (Nat.le_refl _)⟩
    rw [← hr0.out]
    rfl
  | some q =>
    obtain ⟨T, I, Z⟩ := q
    obtain ⟨rfl, hO2⟩ := hU
    have g0 : w2.cell? ⟨w.heap.size + 1, 0, none⟩ = some (.int .i64 T) := (blk_cell hO2 0).trans rfl
    have g1 : w2.cell? ⟨w.heap.size + 1, 1, none⟩ = some (.int .i32 I) := (blk_cell hO2 1).trans rfl
    have g2 : w2.cell? ⟨w.heap.size + 1, 2, none⟩ = some (.string Z) := (blk_cell hO2 2).trans rfl
    replace hO2 := Aside0.mk hO2
    go_wp2_with fail
    refine bodyPost_ret (results_list (rs := [.cell 2 34, .tmp 3]) rfl (by simp) (.cell w.heap.size 34 _ (0, 0) _ rfl (blk_set (blk_set (blk_set h34.out 0 (.int .i64 T)) 1 (.int .i32 I)) 2 (.string Z)) Tryd.underlying34 rfl (by kernel_rfl) (.tmp .nil))) rfl ?_
    refine ⟨?_, below_set (below_set (below_set hB2.out (Nat.le_refl _)) (Nat.le_refl _)) (Nat.le_refl _)⟩
    rw [← hr0.out]
    rfl
end Go.Proofs.YtmkpkpkcoieeiabDoor.IsF
