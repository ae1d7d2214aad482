/- Versions: parse walked: a text's version, or none. -/
import Derived.Test.YtmfgkidppchobaaDoorProg
import Derived.Test.YtmfgkidppchobaaDoorVerA
import Derived.Test.YtmfgkidppchobaaDoorShelf
import Derived.Test.YtmfgkidppchobaaDoorXFnVersionWaysx
import Derived.Laws.MakeOwn
import Derived.Lib.ParseIntBCases
import Derived.Lib.LazyBuf
import Derived.LoopTactic
set_option linter.unusedSimpArgs false
set_option linter.unusedVariables false
namespace Go.Proofs.YtmfgkidppchobaaDoor.Ver4
open Go.RowKit Go.Proofs.YtmfgkidppchobaaDoorW.PrintWords Go.Proofs.YtmfgkidppchobaaDoorW.PrintLast Go.Proofs.YtmfgkidppchobaaDoor.XFnVersionWays Go.Proofs.YtmfgkidppchobaaDoor.Ver1 Go.Proofs.YtmfgkidppchobaaDoor.Ver2 Go.Proofs.YtmfgkidppchobaaDoor.Ver3

/-- The number of a text of digits. -/
def numU (s : ByteArray) : Option Nat := match Lib.parseUintB 64 s.data.toList with
  | .ok u => some u
  | _ => none
theorem numU_lt {s : ByteArray} {u : Nat} (h : numU s = some u) : u < 18446744073709551616 := by
  unfold numU at h
  cases hq : Lib.parseUintB 64 s.data.toList with
  | ok v =>
    rw [hq] at h
    obtain rfl : v = u := by simpa using h
    have h2 := Lib.parseUintB_le hq
    rw [show (2 : Nat) ^ 64 = 18446744073709551616 from rfl] at h2
    omega
  | range => rw [hq] at h; cases h
  | _ => rw [hq] at h; cases h
theorem puYes (s : ByteArray) (u : Nat) (w : World) (hs : s.size ≤ 140737488351232) (h : numU s = some u) :
    Calls Tryd.prog 74 #[.string s, .int .i64 10, .int .i64 0] w fun e w' => e = .returned (.tuple #[.int .u64 u, .nilIface]) ∧ Below w.heap.size w w' := by
  unfold numU at h
  cases hq : Lib.parseUintB 64 s.data.toList with
  | ok v =>
    rw [hq] at h
    obtain rfl : v = u := by simpa using h
    refine (Tryd.strconv_ParseUint_10_at0_ok s (by omega) v hq _).mono ?_
    rintro e w1 ⟨rfl, hW⟩
    refine ⟨rfl, ?_⟩
    rcases hW with rfl | rfl
    · exact Below.refl _ _
    · exact Lib.bytesWorld_below _ _ _
  | range => rw [hq] at h; cases h
  | _ => rw [hq] at h; cases h
theorem puNo (s : ByteArray) (w : World) (hs : s.size ≤ 140737488351232) (h : numU s = none) (hV : VT.V w) :
    Calls Tryd.prog 74 #[.string s, .int .i64 10, .int .i64 0] w fun e w' => ∃ n p, e = .returned (.tuple #[.int .u64 n, .iface 115 p]) ∧ Below w.heap.size w w' := by
  unfold numU at h
  obtain ⟨⟨⟨e0, hc0, he0⟩, ⟨e1, hc1, he1⟩⟩, _, _⟩ := hV
  cases hq : Lib.parseUintB 64 s.data.toList with
  | ok v => rw [hq] at h; cases h
  | range =>
    refine (Tryd.strconv_ParseUint_10_at0_range s (by omega) hq e1 _ hc1 he1).mono ?_
    rintro e w1 ⟨N, rfl, _, _, hb⟩
    exact ⟨_, _, rfl, hb⟩
  | _ =>
    refine (Tryd.strconv_ParseUint_10_at0_syntax s (by omega) ⟨(fun _ hh => nomatch (hq.symm.trans hh)), (fun hh => nomatch (hq.symm.trans hh))⟩ e0 _ hc0 he0).mono ?_
    rintro e w1 ⟨N, rfl, _, _, hb⟩
    exact ⟨_, _, rfl, hb⟩
/-- A nought ahead of others. -/
def bad0 (c : ByteArray) : Bool := Lib.hasPrefix c.data.toList [48] && !(c.toList == [48])
def compP (sv first : Bool) (c : ByteArray) : Option Int := if ((first || sv) && bad0 c) = true then none else (numU c).map (fun u => (u : Int))
/-- The numbers of a version's pieces. -/
def compsP (sv : Bool) : Bool → List ByteArray → Option (List Int)
  | _, [] => some []
  | first, c :: cs => (compP sv first c).bind fun n => (compsP sv false cs).map fun ns => n :: ns
theorem comps_next {sv : Bool} {cs : List ByteArray} {k : Nat} {ns : List Int} {c : ByteArray} (hc : cs[k]? = some c) (h : compsP sv true cs = (compsP sv (decide (k = 0)) (cs.drop k)).map (ns ++ ·)) :
    compsP sv true cs = (compP sv (decide (k = 0)) c).bind fun n => (compsP sv (decide (k + 1 = 0)) (cs.drop (k + 1))).map ((ns ++ [n]) ++ ·) := by
  obtain ⟨hk, he⟩ := List.getElem?_eq_some_iff.1 hc
  rw [h, List.drop_eq_getElem_cons hk, he]
  show ((compP sv (decide (k = 0)) c).bind _).map _ = _
  rw [show decide (k + 1 = 0) = false from decide_eq_false (by omega)]
  cases compP sv (decide (k = 0)) c with
  | none => rfl
  | some n =>
    show ((compsP sv false (cs.drop (k + 1))).map _).map _ = (compsP sv false (cs.drop (k + 1))).map _
    rw [Option.map_map]
    congr 1
    funext x
    simp
def Post (sv : Bool) (r : Option (List Int × ByteArray × ByteArray)) (w : World) (e : Ending) (w' : World) : Prop := match r with
  | none => ∃ p, e = .returned (.tuple #[.pointer none, .iface 107 p]) ∧ Below w.heap.size w w'
  | some (ns, pre, bld) => ∃ g, e = .returned (.tuple #[Ptr g, .nilIface]) ∧ w.heap.size ≤ g ∧ IsVer w' g ns sv pre bld ∧ U64 ns ∧ Below w.heap.size w w'
abbrev E0 : ByteArray := ⟨#[]⟩
theorem makeRow (n : Nat) (hn : n ≤ 4294967296) (W : World) : (Instr.makeSlice 23 (.int .i64 (n : Int)) (.int .i64 (n : Int))).run Tryd.prog W = .ok (.slice (some ⟨W.heap.size, 0, none⟩) n n) (W.alloc (.cells (Array.replicate n (Value.int .u64 0)) 36)) := by
  obtain ⟨i, hi, hq⟩ : ∃ i, Tryd.prog.info? 36 = some i ∧ (i.zero, i.size, i.bytes) = (some (Value.int .u64 0), 1, 8) := by
    have h : (Tryd.prog.info? 36).map (fun i => (i.zero, i.size, i.bytes)) = some (some (Value.int .u64 0), 1, 8) := by kernel_rfl
    cases hc : Tryd.prog.info? 36 with
    | none => rw [hc] at h; cases h
    | some i => rw [hc] at h; exact ⟨i, rfl, Option.some.inj h⟩
  have hz : i.zero = some (Value.int .u64 0) := congrArg Prod.fst hq
  have hs : i.size = 1 := congrArg (fun x => x.2.1) hq
  have hb : i.bytes = 8 := congrArg (fun x => x.2.2) hq
  have h := run_make (P := Tryd.prog) W 23 36 i (.int .u64 0) Tryd.underlying23 hi hz .i64 .i64 (n : Int) (n : Int) (by omega) (by omega) (by rw [hb]; omega) (by omega)
  rw [Int.toNat_natCast, hs, Nat.mul_one] at h
  rw [h]
  have e : madeCells (Value.int .u64 0).cells n = Array.replicate n (Value.int .u64 0) := by
    apply Array.ext
    · rw [size_madeCells]; simp
    · intro j h1 h2
      simp [madeCells, Value.cells, Nat.mod_one]
  rw [e]
theorem set_at (ns : List Int) (m : Nat) (u : Int) : ((ns ++ List.replicate (m + 1) 0).set ns.length u) = (ns ++ [u]) ++ List.replicate m 0 := by
  rw [List.set_append_right _ _ (Nat.le_refl _), Nat.sub_self, List.replicate_succ, List.set_cons_zero, List.append_assoc]
  rfl
theorem nilYes (W : World) : (binOp BinOp.eql 54 (.slice none 0 0) (.slice none 0 0)).run Tryd.prog W = .ok (.bool true) W := by kernel_rfl
theorem nilNo (a : Addr) (n c : Nat) (W : World) : (binOp BinOp.eql 54 (.slice (some a) n c) (.slice none 0 0)).run Tryd.prog W = .ok (.bool false) W := by
  exact Go.run_eql_slice_nil W 54 9 (some a) n c Tryd.underlying54
theorem rdOf_at {cs : List ByteArray} {k : Nat} {c : ByteArray} (h : rdOf ByteArray.empty cs (k : Int) = c) (hk : k < cs.length) : cs[k]? = some c := by
  rw [← h]
  simp [rdOf, hk]
theorem addr0 (b k : Nat) : (⟨b, 0, none⟩ : Addr).add k = ⟨b, k, none⟩ := by
  unfold Go.Addr.add
  by_cases hj0 : k = 0
  · subst hj0; rfl
  · rw [if_neg hj0, Nat.zero_add]
def Row (w : World) (b : Nat) (xs : List Int) : Prop := w.heap[b]? = some (.cells (xs.map (Value.int .u64)).toArray 36 (0, 0))
def Obj4 (w : World) (g b n : Nat) (sv : Bool) (pre bld : ByteArray) : Prop := w.heap[g]? = some (.cells #[.slice (some ⟨b, 0, none⟩) n n, .bool sv, .string pre, .string bld] 87 (0, 0))
theorem Row.below {w w' : World} {b : Nat} {xs : List Int} (h : Row w b xs) (hb : Below w.heap.size w w') : Row w' b xs := (hb.block b (blk_lt h)).trans h
theorem Obj4.below {w w' : World} {g b n : Nat} {sv : Bool} {pre bld : ByteArray} (h : Obj4 w g b n sv pre bld) (hb : Below w.heap.size w w') : Obj4 w' g b n sv pre bld := (hb.block g (blk_lt h)).trans h
theorem row_set {w : World} {b k n : Nat} {ns : List Int} (h1 : ns.length = k) (h2 : k + 1 ≤ n) (h : Row w b (ns ++ List.replicate (n - k) 0)) (u : Int) : Row (w.setCell ⟨b, k, none⟩ (.int .u64 u)) b ((ns ++ [u]) ++ List.replicate (n - (k + 1)) 0) := by
  have h3 := blk_set h k (.int .u64 u)
  unfold Row
  rw [h3, ← set_at, h1, show n - (k + 1) + 1 = n - k by omega, List.setIfInBounds_toArray, List.map_set]
theorem isVer_of {w : World} {g b n : Nat} {sv : Bool} {pre bld : ByteArray} {ns : List Int} (hn : ns.length = n) (h : Obj4 w g b n sv pre bld) (hr : Row w b ns) (hl : n ≤ 4294967296) : IsVer w g ns sv pre bld := by
  subst hn
  exact ⟨_, _, h, C_row ns (by omega) hr, Nat.le_refl _⟩

set_option maxHeartbeats 4000000 in
set_option maxRecDepth 100000 in
theorem parse_nil (k : Nat) (s : ByteArray) (sv : Bool) (w : World) (h1 : version_zzVersion.f k s = some []) :
    Calls Tryd.prog 58 #[.string s, .bool sv] w (Post sv none w) := by
  go_enter Tryd.func58, Tryd.ntmps58
  go_wp2_with fail
  refine (version_zzVersion.calls k s [] _ h1).mono ?_
  rintro e w1 ⟨v1, rfl, hR1, hv1, hB1⟩
  obtain rfl := hv1 rfl
  clear hv1
  have hnil := nilYes
  go_wp2_with fail
  refine (errNew _ _).mono ?_
  rintro e wE ⟨pE, rfl, hBE⟩
  have hBE := Aside0.mk (below_then hB1 hB1.size hBE)
  go_wp2_with fail
  refine bodyPost_ret (results_list (rs := [.tmp 4, .tmp 5]) rfl (by simp) (.tmp (.tmp .nil))) rfl ?_
  exact ⟨_, rfl, hBE.out⟩
set_option maxHeartbeats 4000000 in
set_option maxRecDepth 100000 in
theorem parse_gen (k : Nat) (s : ByteArray) (l : List ByteArray) (x1 x2 : ByteArray) (cs : List ByteArray) (w : World) (h1 : version_zzVersion.f k s = some l) (hl3 : l.length = 3) (hx1 : rdOf ByteArray.empty l 1 = x1) (hx2 : rdOf ByteArray.empty l 2 = x2) (h2 : version_zzSplit.f k x1 ⟨#[46]⟩ = some cs) (hs : ∀ c ∈ cs, c.size ≤ 140737488351232) (hn : cs.length ≤ 4294967296) (hV : VT.V w) (hns : ¬ cs.length < 2) (h3 : True) :
    Calls Tryd.prog 58 #[.string s, .bool false] w (Post false ((compsP false true cs).map fun ns => (ns, E0, E0)) w) := by
  replace hs := Aside0.mk hs
  replace hns := Aside0.mk hns
  replace hV := Aside0.mk hV
  replace h2 := Aside0.mk h2
  replace h3 := Aside0.mk h3
  have hmk := makeRow cs.length hn
  go_enter Tryd.func58, Tryd.ntmps58
  go_wp2_with fail
  refine (version_zzVersion.calls k s l _ h1).mono ?_
  rintro e w1 ⟨v1, rfl, hR1, _, hB1⟩
  obtain ⟨A1, cp1, rfl⟩ := Kd.R_slice hR1
  obtain ⟨g1, cap1, hv1, hbase1, hglt1, cells1, hcells1⟩ := Kd.R_form hR1 (by omega)
  obtain ⟨rfl, rfl⟩ : A1 = some ⟨g1, 0, none⟩ ∧ cp1 = cap1 := by injection hv1 with e1 e2 e3; exact ⟨e1, e3⟩
  have rc1 : w1.cell? ⟨g1, 1, none⟩ = some (.string (rdOf ByteArray.empty l 1)) := (Kd.R_cell (ByteArray.empty) hR1 1 (by omega) (by omega)).1
  have rc2 : w1.cell? ⟨g1, 2, none⟩ = some (.string (rdOf ByteArray.empty l 2)) := (Kd.R_cell (ByteArray.empty) hR1 2 (by omega) (by omega)).1
  rw [hx1] at rc1
  rw [hx2] at rc2
  have z1 : (1 : Int) < (l.length : Int) := by omega
  have z2 : (2 : Int) < (l.length : Int) := by omega
  have hB1 := Aside0.mk hB1
  have hR1 := Aside0.mk hR1
  replace h1 := Aside0.mk h1
  replace hl3 := Aside0.mk hl3
  have hnil := nilNo ⟨g1, 0, none⟩ l.length cp1
  clear hv1 hcells1 hbase1 hglt1 hx1 hx2
  go_upto_region 4 with (fail)
  clear hnil
  go_region
  have hBd := Aside0.mk (show Below w.heap.size w w1.drew from pw_below_drewN hB1.out 1)
  clear rc1 rc2 z1 z2
  go_wp2_with fail
  refine (version_zzSplit.calls k x1 ⟨#[46]⟩ cs _ h2.out).mono ?_
  rintro e w2 ⟨v2, rfl, hR2, hB2⟩
  obtain ⟨A2, c2, rfl, hc2, hC2⟩ := Kd.R_reads hR2
  replace hc2 := Aside0.mk hc2
  have hB2 := Aside0.mk (below_then hBd.out hBd.out.size hB2)
  clear hR2 hB1 hR1 hBd
  have cn1 : decide ((cs.length : Int) < 2) = false := decide_eq_false (by have := hns.out; omega)
  have cn2 : decide (cs.length < 2) = false := decide_eq_false (by have := hns.out; omega)
  go_wp2_with fail
  go_loopw [57] (fun i wr => ∃ (k : Nat) (ns : List Int), k ≤ cs.length ∧ i = .int .i64 k ∧ ns.length = k ∧ U64 ns ∧ compsP false true cs = (compsP false (decide (k = 0)) (cs.drop k)).map (ns ++ ·) ∧ Row wr w2.heap.size (ns ++ List.replicate (cs.length - k) 0) ∧ Obj4 wr (w2.heap.size + 1) w2.heap.size cs.length false E0 E0 ∧ Below w2.heap.size w2 wr) (fun i _ => cs.length - (intOf i).toNat)
  case atStart =>
    refine ⟨0, [], Nat.zero_le _, rfl, rfl, (fun _ hx => by cases hx), by simp, ?_, ?_, below_alloc (below_alloc (Below.refl _ _) _) _⟩
    · show (World.alloc _ _).heap[w2.heap.size]? = _
      rw [Below.heap_alloc _ _ _ (by rw [World.size_alloc]; omega), Nat.sub_zero, List.nil_append]
      have h := heap_alloc_new w2 (.cells (Array.replicate cs.length (Value.int .u64 0)) 36)
      rw [h, List.map_replicate, List.toArray_replicate]
    · have h := heap_alloc_new (w2.alloc (.cells (Array.replicate cs.length (Value.int .u64 0)) 36)) (.cells #[.slice (some ⟨w2.heap.size, 0, none⟩) cs.length cs.length, .bool false, .string ⟨#[]⟩, .string ⟨#[]⟩] 87)
      rw [World.size_alloc] at h
      exact h
  case round =>
    obtain ⟨k, ns, hk, rfl, hnl, hU, hC, hRow, hObj, hB⟩ := hrel
    have hCk := Kd.C_below hC2 hB
    replace hU := Aside0.mk hU
    replace hRow := Aside0.mk hRow
    replace hObj := Aside0.mk hObj
    replace hB := Aside0.mk hB
    by_cases c3 : (k : Int) < (cs.length : Int)
    · obtain ⟨c, hc⟩ : ∃ c, rdOf ByteArray.empty cs (k : Int) = c := ⟨_, rfl⟩
      have hcl := rdOf_at hc (by omega)
      have hsz := Aside0.mk (hs.out c (List.mem_of_getElem? hcl))
      have hnx := Aside0.mk (comps_next hcl hC)
      have p := Int.natCast_nonneg k
      obtain ⟨ad, e1, hcell⟩ := Kd.at_string hCk (k : Int) p c3
      rw [hc, Int.toNat_natCast] at hcell
      cases e1
      have c3b := decide_eq_true c3
      have hk2 := Aside0.mk (show k + 1 ≤ cs.length by omega)
      have hnl := Aside0.mk hnl
      replace hC := Aside0.mk hC
      replace p := eq_true p
      replace c3 := eq_true c3
      clear hCk hc hcl
      by_cases hk0 : k = 0
      · have z1 : ((k : Int) == 0) = true := by rw [hk0]; rfl
        have hk0x := Aside0.mk (show (decide (k = 0) || false) = true from by rw [decide_eq_true hk0]; rfl)
        clear hk0
        obtain ⟨b, eb⟩ : ∃ b, b = Lib.hasPrefix c.data.toList (⟨#[48]⟩ : ByteArray).data.toList := ⟨_, rfl⟩
        go_wp2_with fail
        refine (Tryd.strings_HasPrefix c ⟨#[48]⟩ _).mono ?_
        rintro e w3 ⟨rfl, rfl⟩
        rw [← eb]
        replace eb := Aside0.mk eb
        cases b
        · have hcp := Aside0.mk (show (compP false (decide (k = 0)) c = (numU c).map (fun u => (u : Int))) from by
            have hb : bad0 c = false := by unfold bad0; rw [show Lib.hasPrefix c.data.toList [48] = false from eb.out.symm]; rfl
            unfold compP; rw [hb]; simp)
          cases hu : numU c with
          | none =>
            rw [hu] at hcp
            go_wp2_with fail
            refine (puNo c _ hsz.out hu (hV.out.below (below_then hB2.out hB2.out.size hB.out))).mono ?_
            rintro e w4 ⟨n4, p4, rfl, hB4⟩
            replace hB4 := Aside0.mk hB4
            go_wp2_with fail
            refine (errNew _ _).mono ?_
            rintro e wE ⟨pE, rfl, hBE⟩
            have hBE := Aside0.mk (below_then (below_then (below_then hB2.out hB2.out.size hB.out) (below_then hB2.out hB2.out.size hB.out).size hB4.out) (below_then (below_then hB2.out hB2.out.size hB.out) (below_then hB2.out hB2.out.size hB.out).size hB4.out).size hBE)
            go_wp2_with fail
            refine bodyPost_ret (results_list (rs := [.tmp 4, .tmp 5]) rfl (by simp) (.tmp (.tmp .nil))) rfl ?_
            (first | rw [hnx.out, hcp.out] | skip); exact ⟨_, rfl, hBE.out⟩
          | some u =>
            rw [hu] at hcp
            have hul := Aside0.mk (numU_lt hu)
            go_wp2_with fail
            refine (puYes c u _ hsz.out hu).mono ?_
            rintro e w4 ⟨rfl, hB4⟩
            replace hRow := Aside0.mk (hRow.out.below hB4)
            replace hObj := Aside0.mk (hObj.out.below hB4)
            replace hB := Aside0.mk (below_then hB.out hB.out.size hB4)
            clear hB4 hcell hu
            have hc0 := cV0 hObj.out
            have hst : w4.cell? ⟨w2.heap.size, k, none⟩ = some (.int .u64 0) := by
              refine (blk_cell hRow.out k).trans ?_
              have h1 := hnl.out
              have h2 := hk2.out
              simp only [List.getElem?_toArray, List.getElem?_map]
              rw [List.getElem?_append_right (by omega), List.getElem?_replicate, if_pos (by omega)]
              rfl
            have hfr : w4.frozen? ⟨w2.heap.size, k, none⟩ = false := by exact blk_frozen hRow.out k
            go_wp2_with fail
            go_roundw
            case measure => have := hk2.out; first | exact meas this | (rw [show (k : Int) + 1 = ((k + 1 : Nat) : Int) from rfl]; exact meas this)
            case rel =>
              have h1 := hnl.out
              have h2 := hk2.out
              refine ⟨k + 1, ns ++ [(u : Int)], h2, by go_num, by rw [List.length_append, h1]; rfl, ?_, ?_, ?_, ?_, below_set hB.out (Nat.le_refl _)⟩
              · intro y hy
                rcases List.mem_append.1 hy with hy | hy
                · exact hU.out y hy
                · rw [List.mem_singleton.1 hy]; have := hul.out; omega
              · rw [hnx.out, hcp.out]; rfl
              · exact row_set h1 h2 hRow.out u
              · exact blk_far hObj.out (by show w2.heap.size + 1 ≠ w2.heap.size; omega) _
        · by_cases hz : c.toList = [48]
          · have cz : (c.toList == ([48] : List UInt8)) = true := by rw [hz]; rfl
            have hcp := Aside0.mk (show (compP false (decide (k = 0)) c = (numU c).map (fun u => (u : Int))) from by
              have hb : bad0 c = false := by unfold bad0; rw [cz]; simp
              unfold compP; rw [hb]; simp)
            clear hz
            cases hu : numU c with
            | none =>
              rw [hu] at hcp
              go_wp2_with fail
              refine (puNo c _ hsz.out hu (hV.out.below (below_then hB2.out hB2.out.size hB.out))).mono ?_
              rintro e w4 ⟨n4, p4, rfl, hB4⟩
              replace hB4 := Aside0.mk hB4
              go_wp2_with fail
              refine (errNew _ _).mono ?_
              rintro e wE ⟨pE, rfl, hBE⟩
              have hBE := Aside0.mk (below_then (below_then (below_then hB2.out hB2.out.size hB.out) (below_then hB2.out hB2.out.size hB.out).size hB4.out) (below_then (below_then hB2.out hB2.out.size hB.out) (below_then hB2.out hB2.out.size hB.out).size hB4.out).size hBE)
              go_wp2_with fail
              refine bodyPost_ret (results_list (rs := [.tmp 4, .tmp 5]) rfl (by simp) (.tmp (.tmp .nil))) rfl ?_
              (first | rw [hnx.out, hcp.out] | skip); exact ⟨_, rfl, hBE.out⟩
            | some u =>
              rw [hu] at hcp
              have hul := Aside0.mk (numU_lt hu)
              go_wp2_with fail
              refine (puYes c u _ hsz.out hu).mono ?_
              rintro e w4 ⟨rfl, hB4⟩
              replace hRow := Aside0.mk (hRow.out.below hB4)
              replace hObj := Aside0.mk (hObj.out.below hB4)
              replace hB := Aside0.mk (below_then hB.out hB.out.size hB4)
              clear hB4 hcell hu
              have hc0 := cV0 hObj.out
              have hst : w4.cell? ⟨w2.heap.size, k, none⟩ = some (.int .u64 0) := by
                refine (blk_cell hRow.out k).trans ?_
                have h1 := hnl.out
                have h2 := hk2.out
                simp only [List.getElem?_toArray, List.getElem?_map]
                rw [List.getElem?_append_right (by omega), List.getElem?_replicate, if_pos (by omega)]
                rfl
              have hfr : w4.frozen? ⟨w2.heap.size, k, none⟩ = false := by exact blk_frozen hRow.out k
              go_wp2_with fail
              go_roundw
              case measure => have := hk2.out; first | exact meas this | (rw [show (k : Int) + 1 = ((k + 1 : Nat) : Int) from rfl]; exact meas this)
              case rel =>
                have h1 := hnl.out
                have h2 := hk2.out
                refine ⟨k + 1, ns ++ [(u : Int)], h2, by go_num, by rw [List.length_append, h1]; rfl, ?_, ?_, ?_, ?_, below_set hB.out (Nat.le_refl _)⟩
                · intro y hy
                  rcases List.mem_append.1 hy with hy | hy
                  · exact hU.out y hy
                  · rw [List.mem_singleton.1 hy]; have := hul.out; omega
                · rw [hnx.out, hcp.out]; rfl
                · exact row_set h1 h2 hRow.out u
                · exact blk_far hObj.out (by show w2.heap.size + 1 ≠ w2.heap.size; omega) _
          · have cz : (c.toList == ([48] : List UInt8)) = false := beq_eq_false_iff_ne.mpr hz
            have hcp := Aside0.mk (show compP false (decide (k = 0)) c = none from by
              have hb : bad0 c = true := by unfold bad0; rw [cz, show Lib.hasPrefix c.data.toList [48] = true from eb.out.symm]; rfl
              unfold compP; rw [hb, hk0x.out]; rfl)
            clear hz
            go_wp2_with fail
            refine (errNew _ _).mono ?_
            rintro e wE ⟨pE, rfl, hBE⟩
            have hBE := Aside0.mk (below_then (below_then hB2.out hB2.out.size hB.out) (below_then hB2.out hB2.out.size hB.out).size hBE)
            go_wp2_with fail
            refine bodyPost_ret (results_list (rs := [.tmp 4, .tmp 5]) rfl (by simp) (.tmp (.tmp .nil))) rfl ?_
            (first | rw [hnx.out, hcp.out] | skip); exact ⟨_, rfl, hBE.out⟩
      · have z1 : ((k : Int) == 0) = false := beq_eq_false_iff_ne.mpr (by omega)
        have hcp := Aside0.mk (show compP false (decide (k = 0)) c = (numU c).map (fun u => (u : Int)) from by unfold compP; rw [decide_eq_false hk0]; rfl)
        clear hk0
        cases hu : numU c with
        | none =>
          rw [hu] at hcp
          go_wp2_with fail
          refine (puNo c _ hsz.out hu (hV.out.below (below_then hB2.out hB2.out.size hB.out))).mono ?_
          rintro e w4 ⟨n4, p4, rfl, hB4⟩
          replace hB4 := Aside0.mk hB4
          go_wp2_with fail
          refine (errNew _ _).mono ?_
          rintro e wE ⟨pE, rfl, hBE⟩
          have hBE := Aside0.mk (below_then (below_then (below_then hB2.out hB2.out.size hB.out) (below_then hB2.out hB2.out.size hB.out).size hB4.out) (below_then (below_then hB2.out hB2.out.size hB.out) (below_then hB2.out hB2.out.size hB.out).size hB4.out).size hBE)
          go_wp2_with fail
          refine bodyPost_ret (results_list (rs := [.tmp 4, .tmp 5]) rfl (by simp) (.tmp (.tmp .nil))) rfl ?_
          (first | rw [hnx.out, hcp.out] | skip); exact ⟨_, rfl, hBE.out⟩
        | some u =>
          rw [hu] at hcp
          have hul := Aside0.mk (numU_lt hu)
          go_wp2_with fail
          refine (puYes c u _ hsz.out hu).mono ?_
          rintro e w4 ⟨rfl, hB4⟩
          replace hRow := Aside0.mk (hRow.out.below hB4)
          replace hObj := Aside0.mk (hObj.out.below hB4)
          replace hB := Aside0.mk (below_then hB.out hB.out.size hB4)
          clear hB4 hcell hu
          have hc0 := cV0 hObj.out
          have hst : w4.cell? ⟨w2.heap.size, k, none⟩ = some (.int .u64 0) := by
            refine (blk_cell hRow.out k).trans ?_
            have h1 := hnl.out
            have h2 := hk2.out
            simp only [List.getElem?_toArray, List.getElem?_map]
            rw [List.getElem?_append_right (by omega), List.getElem?_replicate, if_pos (by omega)]
            rfl
          have hfr : w4.frozen? ⟨w2.heap.size, k, none⟩ = false := by exact blk_frozen hRow.out k
          go_wp2_with fail
          go_roundw
          case measure => have := hk2.out; first | exact meas this | (rw [show (k : Int) + 1 = ((k + 1 : Nat) : Int) from rfl]; exact meas this)
          case rel =>
            have h1 := hnl.out
            have h2 := hk2.out
            refine ⟨k + 1, ns ++ [(u : Int)], h2, by go_num, by rw [List.length_append, h1]; rfl, ?_, ?_, ?_, ?_, below_set hB.out (Nat.le_refl _)⟩
            · intro y hy
              rcases List.mem_append.1 hy with hy | hy
              · exact hU.out y hy
              · rw [List.mem_singleton.1 hy]; have := hul.out; omega
            · rw [hnx.out, hcp.out]; rfl
            · exact row_set h1 h2 hRow.out u
            · exact blk_far hObj.out (by show w2.heap.size + 1 ≠ w2.heap.size; omega) _
    · have c3b := decide_eq_false c3
      obtain rfl : k = cs.length := by omega
      have hfin : compsP false true cs = some ns := by
        rw [hC, List.drop_length]
        show some (ns ++ []) = some ns
        rw [List.append_nil]
      have hRow := Aside0.mk (show Row wr w2.heap.size ns from by have h := hRow.out; rwa [Nat.sub_self, List.replicate_zero, List.append_nil] at h)
      replace hfin := Aside0.mk hfin
      replace hnl := Aside0.mk hnl
      have hB3 := Aside0.mk (below_then hB2.out hB2.out.size hB.out)
      have hge := Aside0.mk (show w.heap.size ≤ w2.heap.size + 1 from Nat.le_succ_of_le hB2.out.size)
      clear hCk hC hk c3
      go_wp2_with fail
      refine bodyPost_ret (results_list (rs := [.tmp 4, .tmp 5]) rfl (by simp) (.tmp (.tmp .nil))) rfl ?_
      rw [hfin.out]
      exact ⟨_, rfl, hge.out, isVer_of hnl.out hObj.out hRow.out hn, hU.out, hB3.out⟩
/-- A piece of a pre-release that is a number with a nought ahead. -/
def badId (c : ByteArray) : Bool := (numU c).isSome && bad0 c
def tl (ps : List ByteArray) (pre bld : ByteArray) (ns : List Int) : Option (List Int × ByteArray × ByteArray) := if ps.any badId = true then none else some (ns, pre, bld)
set_option maxHeartbeats 4000000 in
set_option maxRecDepth 100000 in
theorem parse_sem1 (k : Nat) (s : ByteArray) (l : List ByteArray) (x1 x2 : ByteArray) (cs : List ByteArray) (w : World) (h1 : version_zzVersion.f k s = some l) (hl3 : l.length = 3) (hx1 : rdOf ByteArray.empty l 1 = x1) (hx2 : rdOf ByteArray.empty l 2 = x2) (h2 : version_zzSplit.f k x1 ⟨#[46]⟩ = some cs) (hs : ∀ c ∈ cs, c.size ≤ 140737488351232) (hn : cs.length ≤ 4294967296) (hns : cs.length = 3) (h3 : x2.toList = []) (hV : VT.V w) :
    Calls Tryd.prog 58 #[.string s, .bool true] w (Post true ((compsP true true cs).map fun ns => (ns, E0, E0)) w) := by
  replace hs := Aside0.mk hs
  replace hns := Aside0.mk hns
  replace hV := Aside0.mk hV
  replace h2 := Aside0.mk h2
  replace h3 := Aside0.mk h3
  have hmk := makeRow cs.length hn
  have q2 : (x2.toList == []) = true := by rw [h3.out]; rfl
  have r2 : x2.toList.isEmpty = true := by rw [h3.out]; rfl
  go_enter Tryd.func58, Tryd.ntmps58
  go_wp2_with fail
  refine (version_zzVersion.calls k s l _ h1).mono ?_
  rintro e w1 ⟨v1, rfl, hR1, _, hB1⟩
  obtain ⟨A1, cp1, rfl⟩ := Kd.R_slice hR1
  obtain ⟨g1, cap1, hv1, hbase1, hglt1, cells1, hcells1⟩ := Kd.R_form hR1 (by omega)
  obtain ⟨rfl, rfl⟩ : A1 = some ⟨g1, 0, none⟩ ∧ cp1 = cap1 := by injection hv1 with e1 e2 e3; exact ⟨e1, e3⟩
  have rc1 : w1.cell? ⟨g1, 1, none⟩ = some (.string (rdOf ByteArray.empty l 1)) := (Kd.R_cell (ByteArray.empty) hR1 1 (by omega) (by omega)).1
  have rc2 : w1.cell? ⟨g1, 2, none⟩ = some (.string (rdOf ByteArray.empty l 2)) := (Kd.R_cell (ByteArray.empty) hR1 2 (by omega) (by omega)).1
  rw [hx1] at rc1
  rw [hx2] at rc2
  have z1 : (1 : Int) < (l.length : Int) := by omega
  have z2 : (2 : Int) < (l.length : Int) := by omega
  have hB1 := Aside0.mk hB1
  have hR1 := Aside0.mk hR1
  replace h1 := Aside0.mk h1
  replace hl3 := Aside0.mk hl3
  have hnil := nilNo ⟨g1, 0, none⟩ l.length cp1
  clear hv1 hcells1 hbase1 hglt1 hx1 hx2
  go_upto_region 4 with (fail)
  clear hnil
  go_region
  have hBd := Aside0.mk (show Below w.heap.size w w1.drew from pw_below_drewN hB1.out 1)
  clear rc1 rc2 z1 z2
  go_wp2_with fail
  refine (version_zzSplit.calls k x1 ⟨#[46]⟩ cs _ h2.out).mono ?_
  rintro e w2 ⟨v2, rfl, hR2, hB2⟩
  obtain ⟨A2, c2, rfl, hc2, hC2⟩ := Kd.R_reads hR2
  replace hc2 := Aside0.mk hc2
  have hB2 := Aside0.mk (below_then hBd.out hBd.out.size hB2)
  clear hR2 hB1 hR1 hBd
  have cn1 : ((cs.length : Int) != 3) = false := by have := hns.out; rw [this]; rfl
  have cn2 : (cs.length != 3) = false := by have := hns.out; rw [this]; rfl
  go_wp2_with fail
  go_loopw [57] (fun i wr => ∃ (k : Nat) (ns : List Int), k ≤ cs.length ∧ i = .int .i64 k ∧ ns.length = k ∧ U64 ns ∧ compsP true true cs = (compsP true (decide (k = 0)) (cs.drop k)).map (ns ++ ·) ∧ Row wr w2.heap.size (ns ++ List.replicate (cs.length - k) 0) ∧ Obj4 wr (w2.heap.size + 1) w2.heap.size cs.length true E0 E0 ∧ Below w2.heap.size w2 wr) (fun i _ => cs.length - (intOf i).toNat)
  case atStart =>
    refine ⟨0, [], Nat.zero_le _, rfl, rfl, (fun _ hx => by cases hx), by simp, ?_, ?_, below_alloc (below_alloc (Below.refl _ _) _) _⟩
    · show (World.alloc _ _).heap[w2.heap.size]? = _
      rw [Below.heap_alloc _ _ _ (by rw [World.size_alloc]; omega), Nat.sub_zero, List.nil_append]
      have h := heap_alloc_new w2 (.cells (Array.replicate cs.length (Value.int .u64 0)) 36)
      rw [h, List.map_replicate, List.toArray_replicate]
    · have h := heap_alloc_new (w2.alloc (.cells (Array.replicate cs.length (Value.int .u64 0)) 36)) (.cells #[.slice (some ⟨w2.heap.size, 0, none⟩) cs.length cs.length, .bool true, .string ⟨#[]⟩, .string ⟨#[]⟩] 87)
      rw [World.size_alloc] at h
      exact h
  case round =>
    obtain ⟨k, ns, hk, rfl, hnl, hU, hC, hRow, hObj, hB⟩ := hrel
    have hCk := Kd.C_below hC2 hB
    replace hU := Aside0.mk hU
    replace hRow := Aside0.mk hRow
    replace hObj := Aside0.mk hObj
    replace hB := Aside0.mk hB
    by_cases c3 : (k : Int) < (cs.length : Int)
    · obtain ⟨c, hc⟩ : ∃ c, rdOf ByteArray.empty cs (k : Int) = c := ⟨_, rfl⟩
      have hcl := rdOf_at hc (by omega)
      have hsz := Aside0.mk (hs.out c (List.mem_of_getElem? hcl))
      have hnx := Aside0.mk (comps_next hcl hC)
      have p := Int.natCast_nonneg k
      obtain ⟨ad, e1, hcell⟩ := Kd.at_string hCk (k : Int) p c3
      rw [hc, Int.toNat_natCast] at hcell
      cases e1
      have c3b := decide_eq_true c3
      have hk2 := Aside0.mk (show k + 1 ≤ cs.length by omega)
      have hnl := Aside0.mk hnl
      replace hC := Aside0.mk hC
      replace p := eq_true p
      replace c3 := eq_true c3
      clear hCk hc hcl
      by_cases hk0 : k = 0
      · have z1 : ((k : Int) == 0) = true := by rw [hk0]; rfl
        have hk0x := Aside0.mk (show (decide (k = 0) || true) = true from by rw [decide_eq_true hk0]; rfl)
        clear hk0
        obtain ⟨b, eb⟩ : ∃ b, b = Lib.hasPrefix c.data.toList (⟨#[48]⟩ : ByteArray).data.toList := ⟨_, rfl⟩
        go_wp2_with fail
        refine (Tryd.strings_HasPrefix c ⟨#[48]⟩ _).mono ?_
        rintro e w3 ⟨rfl, rfl⟩
        rw [← eb]
        replace eb := Aside0.mk eb
        cases b
        · have hcp := Aside0.mk (show (compP true (decide (k = 0)) c = (numU c).map (fun u => (u : Int))) from by
            have hb : bad0 c = false := by unfold bad0; rw [show Lib.hasPrefix c.data.toList [48] = false from eb.out.symm]; rfl
            unfold compP; rw [hb]; simp)
          cases hu : numU c with
          | none =>
            rw [hu] at hcp
            go_wp2_with fail
            refine (puNo c _ hsz.out hu (hV.out.below (below_then hB2.out hB2.out.size hB.out))).mono ?_
            rintro e w4 ⟨n4, p4, rfl, hB4⟩
            replace hB4 := Aside0.mk hB4
            go_wp2_with fail
            refine (errNew _ _).mono ?_
            rintro e wE ⟨pE, rfl, hBE⟩
            have hBE := Aside0.mk (below_then (below_then (below_then hB2.out hB2.out.size hB.out) (below_then hB2.out hB2.out.size hB.out).size hB4.out) (below_then (below_then hB2.out hB2.out.size hB.out) (below_then hB2.out hB2.out.size hB.out).size hB4.out).size hBE)
            go_wp2_with fail
            refine bodyPost_ret (results_list (rs := [.tmp 4, .tmp 5]) rfl (by simp) (.tmp (.tmp .nil))) rfl ?_
            (first | rw [hnx.out, hcp.out] | skip); exact ⟨_, rfl, hBE.out⟩
          | some u =>
            rw [hu] at hcp
            have hul := Aside0.mk (numU_lt hu)
            go_wp2_with fail
            refine (puYes c u _ hsz.out hu).mono ?_
            rintro e w4 ⟨rfl, hB4⟩
            replace hRow := Aside0.mk (hRow.out.below hB4)
            replace hObj := Aside0.mk (hObj.out.below hB4)
            replace hB := Aside0.mk (below_then hB.out hB.out.size hB4)
            clear hB4 hcell hu
            have hc0 := cV0 hObj.out
            have hst : w4.cell? ⟨w2.heap.size, k, none⟩ = some (.int .u64 0) := by
              refine (blk_cell hRow.out k).trans ?_
              have h1 := hnl.out
              have h2 := hk2.out
              simp only [List.getElem?_toArray, List.getElem?_map]
              rw [List.getElem?_append_right (by omega), List.getElem?_replicate, if_pos (by omega)]
              rfl
            have hfr : w4.frozen? ⟨w2.heap.size, k, none⟩ = false := by exact blk_frozen hRow.out k
            go_wp2_with fail
            go_roundw
            case measure => have := hk2.out; first | exact meas this | (rw [show (k : Int) + 1 = ((k + 1 : Nat) : Int) from rfl]; exact meas this)
            case rel =>
              have h1 := hnl.out
              have h2 := hk2.out
              refine ⟨k + 1, ns ++ [(u : Int)], h2, by go_num, by rw [List.length_append, h1]; rfl, ?_, ?_, ?_, ?_, below_set hB.out (Nat.le_refl _)⟩
              · intro y hy
                rcases List.mem_append.1 hy with hy | hy
                · exact hU.out y hy
                · rw [List.mem_singleton.1 hy]; have := hul.out; omega
              · rw [hnx.out, hcp.out]; rfl
              · exact row_set h1 h2 hRow.out u
              · exact blk_far hObj.out (by show w2.heap.size + 1 ≠ w2.heap.size; omega) _
        · by_cases hz : c.toList = [48]
          · have cz : (c.toList == ([48] : List UInt8)) = true := by rw [hz]; rfl
            have hcp := Aside0.mk (show (compP true (decide (k = 0)) c = (numU c).map (fun u => (u : Int))) from by
              have hb : bad0 c = false := by unfold bad0; rw [cz]; simp
              unfold compP; rw [hb]; simp)
            clear hz
            cases hu : numU c with
            | none =>
              rw [hu] at hcp
              go_wp2_with fail
              refine (puNo c _ hsz.out hu (hV.out.below (below_then hB2.out hB2.out.size hB.out))).mono ?_
              rintro e w4 ⟨n4, p4, rfl, hB4⟩
              replace hB4 := Aside0.mk hB4
              go_wp2_with fail
              refine (errNew _ _).mono ?_
              rintro e wE ⟨pE, rfl, hBE⟩
              have hBE := Aside0.mk (below_then (below_then (below_then hB2.out hB2.out.size hB.out) (below_then hB2.out hB2.out.size hB.out).size hB4.out) (below_then (below_then hB2.out hB2.out.size hB.out) (below_then hB2.out hB2.out.size hB.out).size hB4.out).size hBE)
              go_wp2_with fail
              refine bodyPost_ret (results_list (rs := [.tmp 4, .tmp 5]) rfl (by simp) (.tmp (.tmp .nil))) rfl ?_
              (first | rw [hnx.out, hcp.out] | skip); exact ⟨_, rfl, hBE.out⟩
            | some u =>
              rw [hu] at hcp
              have hul := Aside0.mk (numU_lt hu)
              go_wp2_with fail
              refine (puYes c u _ hsz.out hu).mono ?_
              rintro e w4 ⟨rfl, hB4⟩
              replace hRow := Aside0.mk (hRow.out.below hB4)
              replace hObj := Aside0.mk (hObj.out.below hB4)
              replace hB := Aside0.mk (below_then hB.out hB.out.size hB4)
              clear hB4 hcell hu
              have hc0 := cV0 hObj.out
              have hst : w4.cell? ⟨w2.heap.size, k, none⟩ = some (.int .u64 0) := by
                refine (blk_cell hRow.out k).trans ?_
                have h1 := hnl.out
                have h2 := hk2.out
                simp only [List.getElem?_toArray, List.getElem?_map]
                rw [List.getElem?_append_right (by omega), List.getElem?_replicate, if_pos (by omega)]
                rfl
              have hfr : w4.frozen? ⟨w2.heap.size, k, none⟩ = false := by exact blk_frozen hRow.out k
              go_wp2_with fail
              go_roundw
              case measure => have := hk2.out; first | exact meas this | (rw [show (k : Int) + 1 = ((k + 1 : Nat) : Int) from rfl]; exact meas this)
              case rel =>
                have h1 := hnl.out
                have h2 := hk2.out
                refine ⟨k + 1, ns ++ [(u : Int)], h2, by go_num, by rw [List.length_append, h1]; rfl, ?_, ?_, ?_, ?_, below_set hB.out (Nat.le_refl _)⟩
                · intro y hy
                  rcases List.mem_append.1 hy with hy | hy
                  · exact hU.out y hy
                  · rw [List.mem_singleton.1 hy]; have := hul.out; omega
                · rw [hnx.out, hcp.out]; rfl
                · exact row_set h1 h2 hRow.out u
                · exact blk_far hObj.out (by show w2.heap.size + 1 ≠ w2.heap.size; omega) _
          · have cz : (c.toList == ([48] : List UInt8)) = false := beq_eq_false_iff_ne.mpr hz
            have hcp := Aside0.mk (show compP true (decide (k = 0)) c = none from by
              have hb : bad0 c = true := by unfold bad0; rw [cz, show Lib.hasPrefix c.data.toList [48] = true from eb.out.symm]; rfl
              unfold compP; rw [hb, Bool.or_true]; rfl)
            clear hz
            go_wp2_with fail
            refine (errNew _ _).mono ?_
            rintro e wE ⟨pE, rfl, hBE⟩
            have hBE := Aside0.mk (below_then (below_then hB2.out hB2.out.size hB.out) (below_then hB2.out hB2.out.size hB.out).size hBE)
            go_wp2_with fail
            refine bodyPost_ret (results_list (rs := [.tmp 4, .tmp 5]) rfl (by simp) (.tmp (.tmp .nil))) rfl ?_
            (first | rw [hnx.out, hcp.out] | skip); exact ⟨_, rfl, hBE.out⟩
      · have z1 : ((k : Int) == 0) = false := beq_eq_false_iff_ne.mpr (by omega)
        clear hk0
        obtain ⟨b, eb⟩ : ∃ b, b = Lib.hasPrefix c.data.toList (⟨#[48]⟩ : ByteArray).data.toList := ⟨_, rfl⟩
        go_wp2_with fail
        refine (Tryd.strings_HasPrefix c ⟨#[48]⟩ _).mono ?_
        rintro e w3 ⟨rfl, rfl⟩
        rw [← eb]
        replace eb := Aside0.mk eb
        cases b
        · have hcp := Aside0.mk (show (compP true (decide (k = 0)) c = (numU c).map (fun u => (u : Int))) from by
            have hb : bad0 c = false := by unfold bad0; rw [show Lib.hasPrefix c.data.toList [48] = false from eb.out.symm]; rfl
            unfold compP; rw [hb]; simp)
          cases hu : numU c with
          | none =>
            rw [hu] at hcp
            go_wp2_with fail
            refine (puNo c _ hsz.out hu (hV.out.below (below_then hB2.out hB2.out.size hB.out))).mono ?_
            rintro e w4 ⟨n4, p4, rfl, hB4⟩
            replace hB4 := Aside0.mk hB4
            go_wp2_with fail
            refine (errNew _ _).mono ?_
            rintro e wE ⟨pE, rfl, hBE⟩
            have hBE := Aside0.mk (below_then (below_then (below_then hB2.out hB2.out.size hB.out) (below_then hB2.out hB2.out.size hB.out).size hB4.out) (below_then (below_then hB2.out hB2.out.size hB.out) (below_then hB2.out hB2.out.size hB.out).size hB4.out).size hBE)
            go_wp2_with fail
            refine bodyPost_ret (results_list (rs := [.tmp 4, .tmp 5]) rfl (by simp) (.tmp (.tmp .nil))) rfl ?_
            (first | rw [hnx.out, hcp.out] | skip); exact ⟨_, rfl, hBE.out⟩
          | some u =>
            rw [hu] at hcp
            have hul := Aside0.mk (numU_lt hu)
            go_wp2_with fail
            refine (puYes c u _ hsz.out hu).mono ?_
            rintro e w4 ⟨rfl, hB4⟩
            replace hRow := Aside0.mk (hRow.out.below hB4)
            replace hObj := Aside0.mk (hObj.out.below hB4)
            replace hB := Aside0.mk (below_then hB.out hB.out.size hB4)
            clear hB4 hcell hu
            have hc0 := cV0 hObj.out
            have hst : w4.cell? ⟨w2.heap.size, k, none⟩ = some (.int .u64 0) := by
              refine (blk_cell hRow.out k).trans ?_
              have h1 := hnl.out
              have h2 := hk2.out
              simp only [List.getElem?_toArray, List.getElem?_map]
              rw [List.getElem?_append_right (by omega), List.getElem?_replicate, if_pos (by omega)]
              rfl
            have hfr : w4.frozen? ⟨w2.heap.size, k, none⟩ = false := by exact blk_frozen hRow.out k
            go_wp2_with fail
            go_roundw
            case measure => have := hk2.out; first | exact meas this | (rw [show (k : Int) + 1 = ((k + 1 : Nat) : Int) from rfl]; exact meas this)
            case rel =>
              have h1 := hnl.out
              have h2 := hk2.out
              refine ⟨k + 1, ns ++ [(u : Int)], h2, by go_num, by rw [List.length_append, h1]; rfl, ?_, ?_, ?_, ?_, below_set hB.out (Nat.le_refl _)⟩
              · intro y hy
                rcases List.mem_append.1 hy with hy | hy
                · exact hU.out y hy
                · rw [List.mem_singleton.1 hy]; have := hul.out; omega
              · rw [hnx.out, hcp.out]; rfl
              · exact row_set h1 h2 hRow.out u
              · exact blk_far hObj.out (by show w2.heap.size + 1 ≠ w2.heap.size; omega) _
        · by_cases hz : c.toList = [48]
          · have cz : (c.toList == ([48] : List UInt8)) = true := by rw [hz]; rfl
            have hcp := Aside0.mk (show (compP true (decide (k = 0)) c = (numU c).map (fun u => (u : Int))) from by
              have hb : bad0 c = false := by unfold bad0; rw [cz]; simp
              unfold compP; rw [hb]; simp)
            clear hz
            cases hu : numU c with
            | none =>
              rw [hu] at hcp
              go_wp2_with fail
              refine (puNo c _ hsz.out hu (hV.out.below (below_then hB2.out hB2.out.size hB.out))).mono ?_
              rintro e w4 ⟨n4, p4, rfl, hB4⟩
              replace hB4 := Aside0.mk hB4
              go_wp2_with fail
              refine (errNew _ _).mono ?_
              rintro e wE ⟨pE, rfl, hBE⟩
              have hBE := Aside0.mk (below_then (below_then (below_then hB2.out hB2.out.size hB.out) (below_then hB2.out hB2.out.size hB.out).size hB4.out) (below_then (below_then hB2.out hB2.out.size hB.out) (below_then hB2.out hB2.out.size hB.out).size hB4.out).size hBE)
              go_wp2_with fail
              refine bodyPost_ret (results_list (rs := [.tmp 4, .tmp 5]) rfl (by simp) (.tmp (.tmp .nil))) rfl ?_
              (first | rw [hnx.out, hcp.out] | skip); exact ⟨_, rfl, hBE.out⟩
            | some u =>
              rw [hu] at hcp
              have hul := Aside0.mk (numU_lt hu)
              go_wp2_with fail
              refine (puYes c u _ hsz.out hu).mono ?_
              rintro e w4 ⟨rfl, hB4⟩
              replace hRow := Aside0.mk (hRow.out.below hB4)
              replace hObj := Aside0.mk (hObj.out.below hB4)
              replace hB := Aside0.mk (below_then hB.out hB.out.size hB4)
              clear hB4 hcell hu
              have hc0 := cV0 hObj.out
              have hst : w4.cell? ⟨w2.heap.size, k, none⟩ = some (.int .u64 0) := by
                refine (blk_cell hRow.out k).trans ?_
                have h1 := hnl.out
                have h2 := hk2.out
                simp only [List.getElem?_toArray, List.getElem?_map]
                rw [List.getElem?_append_right (by omega), List.getElem?_replicate, if_pos (by omega)]
                rfl
              have hfr : w4.frozen? ⟨w2.heap.size, k, none⟩ = false := by exact blk_frozen hRow.out k
              go_wp2_with fail
              go_roundw
              case measure => have := hk2.out; first | exact meas this | (rw [show (k : Int) + 1 = ((k + 1 : Nat) : Int) from rfl]; exact meas this)
              case rel =>
                have h1 := hnl.out
                have h2 := hk2.out
                refine ⟨k + 1, ns ++ [(u : Int)], h2, by go_num, by rw [List.length_append, h1]; rfl, ?_, ?_, ?_, ?_, below_set hB.out (Nat.le_refl _)⟩
                · intro y hy
                  rcases List.mem_append.1 hy with hy | hy
                  · exact hU.out y hy
                  · rw [List.mem_singleton.1 hy]; have := hul.out; omega
                · rw [hnx.out, hcp.out]; rfl
                · exact row_set h1 h2 hRow.out u
                · exact blk_far hObj.out (by show w2.heap.size + 1 ≠ w2.heap.size; omega) _
          · have cz : (c.toList == ([48] : List UInt8)) = false := beq_eq_false_iff_ne.mpr hz
            have hcp := Aside0.mk (show compP true (decide (k = 0)) c = none from by
              have hb : bad0 c = true := by unfold bad0; rw [cz, show Lib.hasPrefix c.data.toList [48] = true from eb.out.symm]; rfl
              unfold compP; rw [hb, Bool.or_true]; rfl)
            clear hz
            go_wp2_with fail
            refine (errNew _ _).mono ?_
            rintro e wE ⟨pE, rfl, hBE⟩
            have hBE := Aside0.mk (below_then (below_then hB2.out hB2.out.size hB.out) (below_then hB2.out hB2.out.size hB.out).size hBE)
            go_wp2_with fail
            refine bodyPost_ret (results_list (rs := [.tmp 4, .tmp 5]) rfl (by simp) (.tmp (.tmp .nil))) rfl ?_
            (first | rw [hnx.out, hcp.out] | skip); exact ⟨_, rfl, hBE.out⟩
    · have c3b := decide_eq_false c3
      obtain rfl : k = cs.length := by omega
      have hfin : compsP true true cs = some ns := by
        rw [hC, List.drop_length]
        show some (ns ++ []) = some ns
        rw [List.append_nil]
      have hRow := Aside0.mk (show Row wr w2.heap.size ns from by have h := hRow.out; rwa [Nat.sub_self, List.replicate_zero, List.append_nil] at h)
      replace hfin := Aside0.mk hfin
      replace hnl := Aside0.mk hnl
      have hB3 := Aside0.mk (below_then hB2.out hB2.out.size hB.out)
      have hge := Aside0.mk (show w.heap.size ≤ w2.heap.size + 1 from Nat.le_succ_of_le hB2.out.size)
      clear hCk hC hk c3
      go_wp2_with fail
      refine bodyPost_ret (results_list (rs := [.tmp 4, .tmp 5]) rfl (by simp) (.tmp (.tmp .nil))) rfl ?_
      rw [hfin.out]
      exact ⟨_, rfl, hge.out, isVer_of hnl.out hObj.out hRow.out hn, hU.out, hB3.out⟩
set_option maxHeartbeats 4000000 in
set_option maxRecDepth 100000 in
theorem parse_sem2 (k : Nat) (s : ByteArray) (l : List ByteArray) (x1 x2 : ByteArray) (cs : List ByteArray) (w : World) (h1 : version_zzVersion.f k s = some l) (hl3 : l.length = 3) (hx1 : rdOf ByteArray.empty l 1 = x1) (hx2 : rdOf ByteArray.empty l 2 = x2) (h2 : version_zzSplit.f k x1 ⟨#[46]⟩ = some cs) (hs : ∀ c ∈ cs, c.size ≤ 140737488351232) (hn : cs.length ≤ 4294967296) (hns : cs.length = 3) (h3 : ¬ x2.toList = []) (hV : VT.V w) (k2 : Nat) (ex : List ByteArray) (h4 : version_zzExtra.f k2 x2 = some ex) (h5 : ex = []) :
    Calls Tryd.prog 58 #[.string s, .bool true] w (Post true ((compsP true true cs).bind fun _ => none) w) := by
  replace hs := Aside0.mk hs
  replace hns := Aside0.mk hns
  replace hV := Aside0.mk hV
  replace h2 := Aside0.mk h2
  replace h3 := Aside0.mk h3
  have hmk := makeRow cs.length hn
  replace h4 := Aside0.mk h4
  replace h5 := Aside0.mk h5
  have q2 : (x2.toList == []) = false := beq_eq_false_iff_ne.mpr h3.out
  have r2 : x2.toList.isEmpty = false := by cases h : x2.toList with
  | nil => exact absurd h h3.out
  | cons a t => rfl
  go_enter Tryd.func58, Tryd.ntmps58
  go_wp2_with fail
  refine (version_zzVersion.calls k s l _ h1).mono ?_
  rintro e w1 ⟨v1, rfl, hR1, _, hB1⟩
  obtain ⟨A1, cp1, rfl⟩ := Kd.R_slice hR1
  obtain ⟨g1, cap1, hv1, hbase1, hglt1, cells1, hcells1⟩ := Kd.R_form hR1 (by omega)
  obtain ⟨rfl, rfl⟩ : A1 = some ⟨g1, 0, none⟩ ∧ cp1 = cap1 := by injection hv1 with e1 e2 e3; exact ⟨e1, e3⟩
  have rc1 : w1.cell? ⟨g1, 1, none⟩ = some (.string (rdOf ByteArray.empty l 1)) := (Kd.R_cell (ByteArray.empty) hR1 1 (by omega) (by omega)).1
  have rc2 : w1.cell? ⟨g1, 2, none⟩ = some (.string (rdOf ByteArray.empty l 2)) := (Kd.R_cell (ByteArray.empty) hR1 2 (by omega) (by omega)).1
  rw [hx1] at rc1
  rw [hx2] at rc2
  have z1 : (1 : Int) < (l.length : Int) := by omega
  have z2 : (2 : Int) < (l.length : Int) := by omega
  have hB1 := Aside0.mk hB1
  have hR1 := Aside0.mk hR1
  replace h1 := Aside0.mk h1
  replace hl3 := Aside0.mk hl3
  have hnil := nilNo ⟨g1, 0, none⟩ l.length cp1
  clear hv1 hcells1 hbase1 hglt1 hx1 hx2
  go_upto_region 4 with (fail)
  clear hnil
  go_region
  have hBd := Aside0.mk (show Below w.heap.size w w1.drew from pw_below_drewN hB1.out 1)
  clear rc1 rc2 z1 z2
  go_wp2_with fail
  refine (version_zzSplit.calls k x1 ⟨#[46]⟩ cs _ h2.out).mono ?_
  rintro e w2 ⟨v2, rfl, hR2, hB2⟩
  obtain ⟨A2, c2, rfl, hc2, hC2⟩ := Kd.R_reads hR2
  replace hc2 := Aside0.mk hc2
  have hB2 := Aside0.mk (below_then hBd.out hBd.out.size hB2)
  clear hR2 hB1 hR1 hBd
  have cn1 : ((cs.length : Int) != 3) = false := by have := hns.out; rw [this]; rfl
  have cn2 : (cs.length != 3) = false := by have := hns.out; rw [this]; rfl
  go_wp2_with fail
  go_loopw [57] (fun i wr => ∃ (k : Nat) (ns : List Int), k ≤ cs.length ∧ i = .int .i64 k ∧ ns.length = k ∧ U64 ns ∧ compsP true true cs = (compsP true (decide (k = 0)) (cs.drop k)).map (ns ++ ·) ∧ Row wr w2.heap.size (ns ++ List.replicate (cs.length - k) 0) ∧ Obj4 wr (w2.heap.size + 1) w2.heap.size cs.length true E0 E0 ∧ Below w2.heap.size w2 wr) (fun i _ => cs.length - (intOf i).toNat)
  case atStart =>
    refine ⟨0, [], Nat.zero_le _, rfl, rfl, (fun _ hx => by cases hx), by simp, ?_, ?_, below_alloc (below_alloc (Below.refl _ _) _) _⟩
    · show (World.alloc _ _).heap[w2.heap.size]? = _
      rw [Below.heap_alloc _ _ _ (by rw [World.size_alloc]; omega), Nat.sub_zero, List.nil_append]
      have h := heap_alloc_new w2 (.cells (Array.replicate cs.length (Value.int .u64 0)) 36)
      rw [h, List.map_replicate, List.toArray_replicate]
    · have h := heap_alloc_new (w2.alloc (.cells (Array.replicate cs.length (Value.int .u64 0)) 36)) (.cells #[.slice (some ⟨w2.heap.size, 0, none⟩) cs.length cs.length, .bool true, .string ⟨#[]⟩, .string ⟨#[]⟩] 87)
      rw [World.size_alloc] at h
      exact h
  case round =>
    obtain ⟨k, ns, hk, rfl, hnl, hU, hC, hRow, hObj, hB⟩ := hrel
    have hCk := Kd.C_below hC2 hB
    replace hU := Aside0.mk hU
    replace hRow := Aside0.mk hRow
    replace hObj := Aside0.mk hObj
    replace hB := Aside0.mk hB
    by_cases c3 : (k : Int) < (cs.length : Int)
    · obtain ⟨c, hc⟩ : ∃ c, rdOf ByteArray.empty cs (k : Int) = c := ⟨_, rfl⟩
      have hcl := rdOf_at hc (by omega)
      have hsz := Aside0.mk (hs.out c (List.mem_of_getElem? hcl))
      have hnx := Aside0.mk (comps_next hcl hC)
      have p := Int.natCast_nonneg k
      obtain ⟨ad, e1, hcell⟩ := Kd.at_string hCk (k : Int) p c3
      rw [hc, Int.toNat_natCast] at hcell
      cases e1
      have c3b := decide_eq_true c3
      have hk2 := Aside0.mk (show k + 1 ≤ cs.length by omega)
      have hnl := Aside0.mk hnl
      replace hC := Aside0.mk hC
      replace p := eq_true p
      replace c3 := eq_true c3
      clear hCk hc hcl
      by_cases hk0 : k = 0
      · have z1 : ((k : Int) == 0) = true := by rw [hk0]; rfl
        have hk0x := Aside0.mk (show (decide (k = 0) || true) = true from by rw [decide_eq_true hk0]; rfl)
        clear hk0
        obtain ⟨b, eb⟩ : ∃ b, b = Lib.hasPrefix c.data.toList (⟨#[48]⟩ : ByteArray).data.toList := ⟨_, rfl⟩
        go_wp2_with fail
        refine (Tryd.strings_HasPrefix c ⟨#[48]⟩ _).mono ?_
        rintro e w3 ⟨rfl, rfl⟩
        rw [← eb]
        replace eb := Aside0.mk eb
        cases b
        · have hcp := Aside0.mk (show (compP true (decide (k = 0)) c = (numU c).map (fun u => (u : Int))) from by
            have hb : bad0 c = false := by unfold bad0; rw [show Lib.hasPrefix c.data.toList [48] = false from eb.out.symm]; rfl
            unfold compP; rw [hb]; simp)
          cases hu : numU c with
          | none =>
            rw [hu] at hcp
            go_wp2_with fail
            refine (puNo c _ hsz.out hu (hV.out.below (below_then hB2.out hB2.out.size hB.out))).mono ?_
            rintro e w4 ⟨n4, p4, rfl, hB4⟩
            replace hB4 := Aside0.mk hB4
            go_wp2_with fail
            refine (errNew _ _).mono ?_
            rintro e wE ⟨pE, rfl, hBE⟩
            have hBE := Aside0.mk (below_then (below_then (below_then hB2.out hB2.out.size hB.out) (below_then hB2.out hB2.out.size hB.out).size hB4.out) (below_then (below_then hB2.out hB2.out.size hB.out) (below_then hB2.out hB2.out.size hB.out).size hB4.out).size hBE)
            go_wp2_with fail
            refine bodyPost_ret (results_list (rs := [.tmp 4, .tmp 5]) rfl (by simp) (.tmp (.tmp .nil))) rfl ?_
            (first | rw [hnx.out, hcp.out] | skip); exact ⟨_, rfl, hBE.out⟩
          | some u =>
            rw [hu] at hcp
            have hul := Aside0.mk (numU_lt hu)
            go_wp2_with fail
            refine (puYes c u _ hsz.out hu).mono ?_
            rintro e w4 ⟨rfl, hB4⟩
            replace hRow := Aside0.mk (hRow.out.below hB4)
            replace hObj := Aside0.mk (hObj.out.below hB4)
            replace hB := Aside0.mk (below_then hB.out hB.out.size hB4)
            clear hB4 hcell hu
            have hc0 := cV0 hObj.out
            have hst : w4.cell? ⟨w2.heap.size, k, none⟩ = some (.int .u64 0) := by
              refine (blk_cell hRow.out k).trans ?_
              have h1 := hnl.out
              have h2 := hk2.out
              simp only [List.getElem?_toArray, List.getElem?_map]
              rw [List.getElem?_append_right (by omega), List.getElem?_replicate, if_pos (by omega)]
              rfl
            have hfr : w4.frozen? ⟨w2.heap.size, k, none⟩ = false := by exact blk_frozen hRow.out k
            go_wp2_with fail
            go_roundw
            case measure => have := hk2.out; first | exact meas this | (rw [show (k : Int) + 1 = ((k + 1 : Nat) : Int) from rfl]; exact meas this)
            case rel =>
              have h1 := hnl.out
              have h2 := hk2.out
              refine ⟨k + 1, ns ++ [(u : Int)], h2, by go_num, by rw [List.length_append, h1]; rfl, ?_, ?_, ?_, ?_, below_set hB.out (Nat.le_refl _)⟩
              · intro y hy
                rcases List.mem_append.1 hy with hy | hy
                · exact hU.out y hy
                · rw [List.mem_singleton.1 hy]; have := hul.out; omega
              · rw [hnx.out, hcp.out]; rfl
              · exact row_set h1 h2 hRow.out u
              · exact blk_far hObj.out (by show w2.heap.size + 1 ≠ w2.heap.size; omega) _
        · by_cases hz : c.toList = [48]
          · have cz : (c.toList == ([48] : List UInt8)) = true := by rw [hz]; rfl
            have hcp := Aside0.mk (show (compP true (decide (k = 0)) c = (numU c).map (fun u => (u : Int))) from by
              have hb : bad0 c = false := by unfold bad0; rw [cz]; simp
              unfold compP; rw [hb]; simp)
            clear hz
            cases hu : numU c with
            | none =>
              rw [hu] at hcp
              go_wp2_with fail
              refine (puNo c _ hsz.out hu (hV.out.below (below_then hB2.out hB2.out.size hB.out))).mono ?_
              rintro e w4 ⟨n4, p4, rfl, hB4⟩
              replace hB4 := Aside0.mk hB4
              go_wp2_with fail
              refine (errNew _ _).mono ?_
              rintro e wE ⟨pE, rfl, hBE⟩
              have hBE := Aside0.mk (below_then (below_then (below_then hB2.out hB2.out.size hB.out) (below_then hB2.out hB2.out.size hB.out).size hB4.out) (below_then (below_then hB2.out hB2.out.size hB.out) (below_then hB2.out hB2.out.size hB.out).size hB4.out).size hBE)
              go_wp2_with fail
              refine bodyPost_ret (results_list (rs := [.tmp 4, .tmp 5]) rfl (by simp) (.tmp (.tmp .nil))) rfl ?_
              (first | rw [hnx.out, hcp.out] | skip); exact ⟨_, rfl, hBE.out⟩
            | some u =>
              rw [hu] at hcp
              have hul := Aside0.mk (numU_lt hu)
              go_wp2_with fail
              refine (puYes c u _ hsz.out hu).mono ?_
              rintro e w4 ⟨rfl, hB4⟩
              replace hRow := Aside0.mk (hRow.out.below hB4)
              replace hObj := Aside0.mk (hObj.out.below hB4)
              replace hB := Aside0.mk (below_then hB.out hB.out.size hB4)
              clear hB4 hcell hu
              have hc0 := cV0 hObj.out
              have hst : w4.cell? ⟨w2.heap.size, k, none⟩ = some (.int .u64 0) := by
                refine (blk_cell hRow.out k).trans ?_
                have h1 := hnl.out
                have h2 := hk2.out
                simp only [List.getElem?_toArray, List.getElem?_map]
                rw [List.getElem?_append_right (by omega), List.getElem?_replicate, if_pos (by omega)]
                rfl
              have hfr : w4.frozen? ⟨w2.heap.size, k, none⟩ = false := by exact blk_frozen hRow.out k
              go_wp2_with fail
              go_roundw
              case measure => have := hk2.out; first | exact meas this | (rw [show (k : Int) + 1 = ((k + 1 : Nat) : Int) from rfl]; exact meas this)
              case rel =>
                have h1 := hnl.out
                have h2 := hk2.out
                refine ⟨k + 1, ns ++ [(u : Int)], h2, by go_num, by rw [List.length_append, h1]; rfl, ?_, ?_, ?_, ?_, below_set hB.out (Nat.le_refl _)⟩
                · intro y hy
                  rcases List.mem_append.1 hy with hy | hy
                  · exact hU.out y hy
                  · rw [List.mem_singleton.1 hy]; have := hul.out; omega
                · rw [hnx.out, hcp.out]; rfl
                · exact row_set h1 h2 hRow.out u
                · exact blk_far hObj.out (by show w2.heap.size + 1 ≠ w2.heap.size; omega) _
          · have cz : (c.toList == ([48] : List UInt8)) = false := beq_eq_false_iff_ne.mpr hz
            have hcp := Aside0.mk (show compP true (decide (k = 0)) c = none from by
              have hb : bad0 c = true := by unfold bad0; rw [cz, show Lib.hasPrefix c.data.toList [48] = true from eb.out.symm]; rfl
              unfold compP; rw [hb, Bool.or_true]; rfl)
            clear hz
            go_wp2_with fail
            refine (errNew _ _).mono ?_
            rintro e wE ⟨pE, rfl, hBE⟩
            have hBE := Aside0.mk (below_then (below_then hB2.out hB2.out.size hB.out) (below_then hB2.out hB2.out.size hB.out).size hBE)
            go_wp2_with fail
            refine bodyPost_ret (results_list (rs := [.tmp 4, .tmp 5]) rfl (by simp) (.tmp (.tmp .nil))) rfl ?_
            (first | rw [hnx.out, hcp.out] | skip); exact ⟨_, rfl, hBE.out⟩
      · have z1 : ((k : Int) == 0) = false := beq_eq_false_iff_ne.mpr (by omega)
        clear hk0
        obtain ⟨b, eb⟩ : ∃ b, b = Lib.hasPrefix c.data.toList (⟨#[48]⟩ : ByteArray).data.toList := ⟨_, rfl⟩
        go_wp2_with fail
        refine (Tryd.strings_HasPrefix c ⟨#[48]⟩ _).mono ?_
        rintro e w3 ⟨rfl, rfl⟩
        rw [← eb]
        replace eb := Aside0.mk eb
        cases b
        · have hcp := Aside0.mk (show (compP true (decide (k = 0)) c = (numU c).map (fun u => (u : Int))) from by
            have hb : bad0 c = false := by unfold bad0; rw [show Lib.hasPrefix c.data.toList [48] = false from eb.out.symm]; rfl
            unfold compP; rw [hb]; simp)
          cases hu : numU c with
          | none =>
            rw [hu] at hcp
            go_wp2_with fail
            refine (puNo c _ hsz.out hu (hV.out.below (below_then hB2.out hB2.out.size hB.out))).mono ?_
            rintro e w4 ⟨n4, p4, rfl, hB4⟩
            replace hB4 := Aside0.mk hB4
            go_wp2_with fail
            refine (errNew _ _).mono ?_
            rintro e wE ⟨pE, rfl, hBE⟩
            have hBE := Aside0.mk (below_then (below_then (below_then hB2.out hB2.out.size hB.out) (below_then hB2.out hB2.out.size hB.out).size hB4.out) (below_then (below_then hB2.out hB2.out.size hB.out) (below_then hB2.out hB2.out.size hB.out).size hB4.out).size hBE)
            go_wp2_with fail
            refine bodyPost_ret (results_list (rs := [.tmp 4, .tmp 5]) rfl (by simp) (.tmp (.tmp .nil))) rfl ?_
            (first | rw [hnx.out, hcp.out] | skip); exact ⟨_, rfl, hBE.out⟩
          | some u =>
            rw [hu] at hcp
            have hul := Aside0.mk (numU_lt hu)
            go_wp2_with fail
            refine (puYes c u _ hsz.out hu).mono ?_
            rintro e w4 ⟨rfl, hB4⟩
            replace hRow := Aside0.mk (hRow.out.below hB4)
            replace hObj := Aside0.mk (hObj.out.below hB4)
            replace hB := Aside0.mk (below_then hB.out hB.out.size hB4)
            clear hB4 hcell hu
            have hc0 := cV0 hObj.out
            have hst : w4.cell? ⟨w2.heap.size, k, none⟩ = some (.int .u64 0) := by
              refine (blk_cell hRow.out k).trans ?_
              have h1 := hnl.out
              have h2 := hk2.out
              simp only [List.getElem?_toArray, List.getElem?_map]
              rw [List.getElem?_append_right (by omega), List.getElem?_replicate, if_pos (by omega)]
              rfl
            have hfr : w4.frozen? ⟨w2.heap.size, k, none⟩ = false := by exact blk_frozen hRow.out k
            go_wp2_with fail
            go_roundw
            case measure => have := hk2.out; first | exact meas this | (rw [show (k : Int) + 1 = ((k + 1 : Nat) : Int) from rfl]; exact meas this)
            case rel =>
              have h1 := hnl.out
              have h2 := hk2.out
              refine ⟨k + 1, ns ++ [(u : Int)], h2, by go_num, by rw [List.length_append, h1]; rfl, ?_, ?_, ?_, ?_, below_set hB.out (Nat.le_refl _)⟩
              · intro y hy
                rcases List.mem_append.1 hy with hy | hy
                · exact hU.out y hy
                · rw [List.mem_singleton.1 hy]; have := hul.out; omega
              · rw [hnx.out, hcp.out]; rfl
              · exact row_set h1 h2 hRow.out u
              · exact blk_far hObj.out (by show w2.heap.size + 1 ≠ w2.heap.size; omega) _
        · by_cases hz : c.toList = [48]
          · have cz : (c.toList == ([48] : List UInt8)) = true := by rw [hz]; rfl
            have hcp := Aside0.mk (show (compP true (decide (k = 0)) c = (numU c).map (fun u => (u : Int))) from by
              have hb : bad0 c = false := by unfold bad0; rw [cz]; simp
              unfold compP; rw [hb]; simp)
            clear hz
            cases hu : numU c with
            | none =>
              rw [hu] at hcp
              go_wp2_with fail
              refine (puNo c _ hsz.out hu (hV.out.below (below_then hB2.out hB2.out.size hB.out))).mono ?_
              rintro e w4 ⟨n4, p4, rfl, hB4⟩
              replace hB4 := Aside0.mk hB4
              go_wp2_with fail
              refine (errNew _ _).mono ?_
              rintro e wE ⟨pE, rfl, hBE⟩
              have hBE := Aside0.mk (below_then (below_then (below_then hB2.out hB2.out.size hB.out) (below_then hB2.out hB2.out.size hB.out).size hB4.out) (below_then (below_then hB2.out hB2.out.size hB.out) (below_then hB2.out hB2.out.size hB.out).size hB4.out).size hBE)
              go_wp2_with fail
              refine bodyPost_ret (results_list (rs := [.tmp 4, .tmp 5]) rfl (by simp) (.tmp (.tmp .nil))) rfl ?_
              (first | rw [hnx.out, hcp.out] | skip); exact ⟨_, rfl, hBE.out⟩
            | some u =>
              rw [hu] at hcp
              have hul := Aside0.mk (numU_lt hu)
              go_wp2_with fail
              refine (puYes c u _ hsz.out hu).mono ?_
              rintro e w4 ⟨rfl, hB4⟩
              replace hRow := Aside0.mk (hRow.out.below hB4)
              replace hObj := Aside0.mk (hObj.out.below hB4)
              replace hB := Aside0.mk (below_then hB.out hB.out.size hB4)
              clear hB4 hcell hu
              have hc0 := cV0 hObj.out
              have hst : w4.cell? ⟨w2.heap.size, k, none⟩ = some (.int .u64 0) := by
                refine (blk_cell hRow.out k).trans ?_
                have h1 := hnl.out
                have h2 := hk2.out
                simp only [List.getElem?_toArray, List.getElem?_map]
                rw [List.getElem?_append_right (by omega), List.getElem?_replicate, if_pos (by omega)]
                rfl
              have hfr : w4.frozen? ⟨w2.heap.size, k, none⟩ = false := by exact blk_frozen hRow.out k
              go_wp2_with fail
              go_roundw
              case measure => have := hk2.out; first | exact meas this | (rw [show (k : Int) + 1 = ((k + 1 : Nat) : Int) from rfl]; exact meas this)
              case rel =>
                have h1 := hnl.out
                have h2 := hk2.out
                refine ⟨k + 1, ns ++ [(u : Int)], h2, by go_num, by rw [List.length_append, h1]; rfl, ?_, ?_, ?_, ?_, below_set hB.out (Nat.le_refl _)⟩
                · intro y hy
                  rcases List.mem_append.1 hy with hy | hy
                  · exact hU.out y hy
                  · rw [List.mem_singleton.1 hy]; have := hul.out; omega
                · rw [hnx.out, hcp.out]; rfl
                · exact row_set h1 h2 hRow.out u
                · exact blk_far hObj.out (by show w2.heap.size + 1 ≠ w2.heap.size; omega) _
          · have cz : (c.toList == ([48] : List UInt8)) = false := beq_eq_false_iff_ne.mpr hz
            have hcp := Aside0.mk (show compP true (decide (k = 0)) c = none from by
              have hb : bad0 c = true := by unfold bad0; rw [cz, show Lib.hasPrefix c.data.toList [48] = true from eb.out.symm]; rfl
              unfold compP; rw [hb, Bool.or_true]; rfl)
            clear hz
            go_wp2_with fail
            refine (errNew _ _).mono ?_
            rintro e wE ⟨pE, rfl, hBE⟩
            have hBE := Aside0.mk (below_then (below_then hB2.out hB2.out.size hB.out) (below_then hB2.out hB2.out.size hB.out).size hBE)
            go_wp2_with fail
            refine bodyPost_ret (results_list (rs := [.tmp 4, .tmp 5]) rfl (by simp) (.tmp (.tmp .nil))) rfl ?_
            (first | rw [hnx.out, hcp.out] | skip); exact ⟨_, rfl, hBE.out⟩
    · have c3b := decide_eq_false c3
      obtain rfl : k = cs.length := by omega
      have hfin : compsP true true cs = some ns := by
        rw [hC, List.drop_length]
        show some (ns ++ []) = some ns
        rw [List.append_nil]
      have hRow := Aside0.mk (show Row wr w2.heap.size ns from by have h := hRow.out; rwa [Nat.sub_self, List.replicate_zero, List.append_nil] at h)
      replace hfin := Aside0.mk hfin
      replace hnl := Aside0.mk hnl
      have hB3 := Aside0.mk (below_then hB2.out hB2.out.size hB.out)
      have hge := Aside0.mk (show w.heap.size ≤ w2.heap.size + 1 from Nat.le_succ_of_le hB2.out.size)
      clear hCk hC hk c3
      go_wp2_with fail
      refine (version_zzExtra.calls k2 x2 ex _ h4.out).mono ?_
      rintro e w5 ⟨v5, rfl, hR5, hv5, hB5⟩
      have hObj := Aside0.mk (hObj.out.below hB5)
      have hRow := Aside0.mk (hRow.out.below hB5)
      replace hB3 := Aside0.mk (below_then hB3.out hB3.out.size hB5)
      obtain rfl := hv5 h5.out
      clear hv5 hR5 hB5
      have hnil := nilYes
      go_wp2_with fail
      refine (errNew _ _).mono ?_
      rintro e wE ⟨pE, rfl, hBE⟩
      have hBE := Aside0.mk (below_then hB3.out hB3.out.size hBE)
      go_wp2_with fail
      refine bodyPost_ret (results_list (rs := [.tmp 4, .tmp 5]) rfl (by simp) (.tmp (.tmp .nil))) rfl ?_
      (first | rw [hfin.out] | skip); exact ⟨_, rfl, hBE.out⟩
end Go.Proofs.YtmfgkidppchobaaDoor.Ver4

set_option linter.unusedSimpArgs false
set_option linter.unusedVariables false
namespace Go.Proofs.YtmfgkidppchobaaDoor.Ver4
open Go.RowKit Go.Proofs.YtmfgkidppchobaaDoorW.PrintWords Go.Proofs.YtmfgkidppchobaaDoorW.PrintLast Go.Proofs.YtmfgkidppchobaaDoor.XFnVersionWays Go.Proofs.YtmfgkidppchobaaDoor.Ver1 Go.Proofs.YtmfgkidppchobaaDoor.Ver2 Go.Proofs.YtmfgkidppchobaaDoor.Ver3

set_option maxHeartbeats 4000000 in
set_option maxRecDepth 100000 in
theorem parse_sem3 (k : Nat) (s : ByteArray) (l : List ByteArray) (x1 x2 : ByteArray) (cs : List ByteArray) (w : World) (h1 : version_zzVersion.f k s = some l) (hl3 : l.length = 3) (hx1 : rdOf ByteArray.empty l 1 = x1) (hx2 : rdOf ByteArray.empty l 2 = x2) (h2 : version_zzSplit.f k x1 ⟨#[46]⟩ = some cs) (hs : ∀ c ∈ cs, c.size ≤ 140737488351232) (hn : cs.length ≤ 4294967296) (hns : cs.length = 3) (h3 : ¬ x2.toList = []) (hV : VT.V w) (k2 : Nat) (ex : List ByteArray) (h4 : version_zzExtra.f k2 x2 = some ex) (h5 : ex.length = 3) (pre bld : ByteArray) (hp1 : rdOf ByteArray.empty ex 1 = pre) (hp2 : rdOf ByteArray.empty ex 2 = bld) (ps : List ByteArray) (h6 : version_zzSplit.f k2 pre ⟨#[46]⟩ = some ps) (hsp : ∀ c ∈ ps, c.size ≤ 140737488351232) (hnp : ps.length ≤ 4294967296) :
    Calls Tryd.prog 58 #[.string s, .bool true] w (Post true ((compsP true true cs).bind (tl ps pre bld)) w) := by
  replace hs := Aside0.mk hs
  replace hns := Aside0.mk hns
  replace hV := Aside0.mk hV
  replace h2 := Aside0.mk h2
  replace h3 := Aside0.mk h3
  have hmk := makeRow cs.length hn
  replace h4 := Aside0.mk h4
  replace h6 := Aside0.mk h6
  replace hsp := Aside0.mk hsp
  replace hp1 := Aside0.mk hp1
  replace hp2 := Aside0.mk hp2
  replace h5 := Aside0.mk h5
  have hnpx := Aside0.mk hnp
  have q2 : (x2.toList == []) = false := beq_eq_false_iff_ne.mpr h3.out
  have r2 : x2.toList.isEmpty = false := by cases h : x2.toList with
  | nil => exact absurd h h3.out
  | cons a t => rfl
  go_enter Tryd.func58, Tryd.ntmps58
  go_wp2_with fail
  refine (version_zzVersion.calls k s l _ h1).mono ?_
  rintro e w1 ⟨v1, rfl, hR1, _, hB1⟩
  obtain ⟨A1, cp1, rfl⟩ := Kd.R_slice hR1
  obtain ⟨g1, cap1, hv1, hbase1, hglt1, cells1, hcells1⟩ := Kd.R_form hR1 (by omega)
  obtain ⟨rfl, rfl⟩ : A1 = some ⟨g1, 0, none⟩ ∧ cp1 = cap1 := by injection hv1 with e1 e2 e3; exact ⟨e1, e3⟩
  have rc1 : w1.cell? ⟨g1, 1, none⟩ = some (.string (rdOf ByteArray.empty l 1)) := (Kd.R_cell (ByteArray.empty) hR1 1 (by omega) (by omega)).1
  have rc2 : w1.cell? ⟨g1, 2, none⟩ = some (.string (rdOf ByteArray.empty l 2)) := (Kd.R_cell (ByteArray.empty) hR1 2 (by omega) (by omega)).1
  rw [hx1] at rc1
  rw [hx2] at rc2
  have z1 : (1 : Int) < (l.length : Int) := by omega
  have z2 : (2 : Int) < (l.length : Int) := by omega
  have hB1 := Aside0.mk hB1
  have hR1 := Aside0.mk hR1
  replace h1 := Aside0.mk h1
  replace hl3 := Aside0.mk hl3
  have hnil := nilNo ⟨g1, 0, none⟩ l.length cp1
  clear hv1 hcells1 hbase1 hglt1 hx1 hx2
  go_upto_region 4 with (fail)
  clear hnil
  go_region
  have hBd := Aside0.mk (show Below w.heap.size w w1.drew from pw_below_drewN hB1.out 1)
  clear rc1 rc2 z1 z2
  go_wp2_with fail
  refine (version_zzSplit.calls k x1 ⟨#[46]⟩ cs _ h2.out).mono ?_
  rintro e w2 ⟨v2, rfl, hR2, hB2⟩
  obtain ⟨A2, c2, rfl, hc2, hC2⟩ := Kd.R_reads hR2
  replace hc2 := Aside0.mk hc2
  have hB2 := Aside0.mk (below_then hBd.out hBd.out.size hB2)
  clear hR2 hB1 hR1 hBd
  have cn1 : ((cs.length : Int) != 3) = false := by have := hns.out; rw [this]; rfl
  have cn2 : (cs.length != 3) = false := by have := hns.out; rw [this]; rfl
  go_wp2_with fail
  go_loopw [57] (fun i wr => ∃ (k : Nat) (ns : List Int), k ≤ cs.length ∧ i = .int .i64 k ∧ ns.length = k ∧ U64 ns ∧ compsP true true cs = (compsP true (decide (k = 0)) (cs.drop k)).map (ns ++ ·) ∧ Row wr w2.heap.size (ns ++ List.replicate (cs.length - k) 0) ∧ Obj4 wr (w2.heap.size + 1) w2.heap.size cs.length true E0 E0 ∧ Below w2.heap.size w2 wr) (fun i _ => cs.length - (intOf i).toNat)
  case atStart =>
    refine ⟨0, [], Nat.zero_le _, rfl, rfl, (fun _ hx => by cases hx), by simp, ?_, ?_, below_alloc (below_alloc (Below.refl _ _) _) _⟩
    · show (World.alloc _ _).heap[w2.heap.size]? = _
      rw [Below.heap_alloc _ _ _ (by rw [World.size_alloc]; omega), Nat.sub_zero, List.nil_append]
      have h := heap_alloc_new w2 (.cells (Array.replicate cs.length (Value.int .u64 0)) 36)
      rw [h, List.map_replicate, List.toArray_replicate]
    · have h := heap_alloc_new (w2.alloc (.cells (Array.replicate cs.length (Value.int .u64 0)) 36)) (.cells #[.slice (some ⟨w2.heap.size, 0, none⟩) cs.length cs.length, .bool true, .string ⟨#[]⟩, .string ⟨#[]⟩] 87)
      rw [World.size_alloc] at h
      exact h
  case round =>
    obtain ⟨k, ns, hk, rfl, hnl, hU, hC, hRow, hObj, hB⟩ := hrel
    have hCk := Kd.C_below hC2 hB
    replace hU := Aside0.mk hU
    replace hRow := Aside0.mk hRow
    replace hObj := Aside0.mk hObj
    replace hB := Aside0.mk hB
    by_cases c3 : (k : Int) < (cs.length : Int)
    · obtain ⟨c, hc⟩ : ∃ c, rdOf ByteArray.empty cs (k : Int) = c := ⟨_, rfl⟩
      have hcl := rdOf_at hc (by omega)
      have hsz := Aside0.mk (hs.out c (List.mem_of_getElem? hcl))
      have hnx := Aside0.mk (comps_next hcl hC)
      have p := Int.natCast_nonneg k
      obtain ⟨ad, e1, hcell⟩ := Kd.at_string hCk (k : Int) p c3
      rw [hc, Int.toNat_natCast] at hcell
      cases e1
      have c3b := decide_eq_true c3
      have hk2 := Aside0.mk (show k + 1 ≤ cs.length by omega)
      have hnl := Aside0.mk hnl
      replace hC := Aside0.mk hC
      replace p := eq_true p
      replace c3 := eq_true c3
      clear hCk hc hcl
      by_cases hk0 : k = 0
      · have z1 : ((k : Int) == 0) = true := by rw [hk0]; rfl
        have hk0x := Aside0.mk (show (decide (k = 0) || true) = true from by rw [decide_eq_true hk0]; rfl)
        clear hk0
        obtain ⟨b, eb⟩ : ∃ b, b = Lib.hasPrefix c.data.toList (⟨#[48]⟩ : ByteArray).data.toList := ⟨_, rfl⟩
        go_wp2_with fail
        refine (Tryd.strings_HasPrefix c ⟨#[48]⟩ _).mono ?_
        rintro e w3 ⟨rfl, rfl⟩
        rw [← eb]
        replace eb := Aside0.mk eb
        cases b
        · have hcp := Aside0.mk (show (compP true (decide (k = 0)) c = (numU c).map (fun u => (u : Int))) from by
            have hb : bad0 c = false := by unfold bad0; rw [show Lib.hasPrefix c.data.toList [48] = false from eb.out.symm]; rfl
            unfold compP; rw [hb]; simp)
          cases hu : numU c with
          | none =>
            rw [hu] at hcp
            go_wp2_with fail
            refine (puNo c _ hsz.out hu (hV.out.below (below_then hB2.out hB2.out.size hB.out))).mono ?_
            rintro e w4 ⟨n4, p4, rfl, hB4⟩
            replace hB4 := Aside0.mk hB4
            go_wp2_with fail
            refine (errNew _ _).mono ?_
            rintro e wE ⟨pE, rfl, hBE⟩
            have hBE := Aside0.mk (below_then (below_then (below_then hB2.out hB2.out.size hB.out) (below_then hB2.out hB2.out.size hB.out).size hB4.out) (below_then (below_then hB2.out hB2.out.size hB.out) (below_then hB2.out hB2.out.size hB.out).size hB4.out).size hBE)
            go_wp2_with fail
            refine bodyPost_ret (results_list (rs := [.tmp 4, .tmp 5]) rfl (by simp) (.tmp (.tmp .nil))) rfl ?_
            (first | rw [hnx.out, hcp.out] | skip); exact ⟨_, rfl, hBE.out⟩
          | some u =>
            rw [hu] at hcp
            have hul := Aside0.mk (numU_lt hu)
            go_wp2_with fail
            refine (puYes c u _ hsz.out hu).mono ?_
            rintro e w4 ⟨rfl, hB4⟩
            replace hRow := Aside0.mk (hRow.out.below hB4)
            replace hObj := Aside0.mk (hObj.out.below hB4)
            replace hB := Aside0.mk (below_then hB.out hB.out.size hB4)
            clear hB4 hcell hu
            have hc0 := cV0 hObj.out
            have hst : w4.cell? ⟨w2.heap.size, k, none⟩ = some (.int .u64 0) := by
              refine (blk_cell hRow.out k).trans ?_
              have h1 := hnl.out
              have h2 := hk2.out
              simp only [List.getElem?_toArray, List.getElem?_map]
              rw [List.getElem?_append_right (by omega), List.getElem?_replicate, if_pos (by omega)]
              rfl
            have hfr : w4.frozen? ⟨w2.heap.size, k, none⟩ = false := by exact blk_frozen hRow.out k
            go_wp2_with fail
            go_roundw
            case measure => have := hk2.out; first | exact meas this | (rw [show (k : Int) + 1 = ((k + 1 : Nat) : Int) from rfl]; exact meas this)
            case rel =>
              have h1 := hnl.out
              have h2 := hk2.out
              refine ⟨k + 1, ns ++ [(u : Int)], h2, by go_num, by rw [List.length_append, h1]; rfl, ?_, ?_, ?_, ?_, below_set hB.out (Nat.le_refl _)⟩
              · intro y hy
                rcases List.mem_append.1 hy with hy | hy
                · exact hU.out y hy
                · rw [List.mem_singleton.1 hy]; have := hul.out; omega
              · rw [hnx.out, hcp.out]; rfl
              · exact row_set h1 h2 hRow.out u
              · exact blk_far hObj.out (by show w2.heap.size + 1 ≠ w2.heap.size; omega) _
        · by_cases hz : c.toList = [48]
          · have cz : (c.toList == ([48] : List UInt8)) = true := by rw [hz]; rfl
            have hcp := Aside0.mk (show (compP true (decide (k = 0)) c = (numU c).map (fun u => (u : Int))) from by
              have hb : bad0 c = false := by unfold bad0; rw [cz]; simp
              unfold compP; rw [hb]; simp)
            clear hz
            cases hu : numU c with
            | none =>
              rw [hu] at hcp
              go_wp2_with fail
              refine (puNo c _ hsz.out hu (hV.out.below (below_then hB2.out hB2.out.size hB.out))).mono ?_
              rintro e w4 ⟨n4, p4, rfl, hB4⟩
              replace hB4 := Aside0.mk hB4
              go_wp2_with fail
              refine (errNew _ _).mono ?_
              rintro e wE ⟨pE, rfl, hBE⟩
              have hBE := Aside0.mk (below_then (below_then (below_then hB2.out hB2.out.size hB.out) (below_then hB2.out hB2.out.size hB.out).size hB4.out) (below_then (below_then hB2.out hB2.out.size hB.out) (below_then hB2.out hB2.out.size hB.out).size hB4.out).size hBE)
              go_wp2_with fail
              refine bodyPost_ret (results_list (rs := [.tmp 4, .tmp 5]) rfl (by simp) (.tmp (.tmp .nil))) rfl ?_
              (first | rw [hnx.out, hcp.out] | skip); exact ⟨_, rfl, hBE.out⟩
            | some u =>
              rw [hu] at hcp
              have hul := Aside0.mk (numU_lt hu)
              go_wp2_with fail
              refine (puYes c u _ hsz.out hu).mono ?_
              rintro e w4 ⟨rfl, hB4⟩
              replace hRow := Aside0.mk (hRow.out.below hB4)
              replace hObj := Aside0.mk (hObj.out.below hB4)
              replace hB := Aside0.mk (below_then hB.out hB.out.size hB4)
              clear hB4 hcell hu
              have hc0 := cV0 hObj.out
              have hst : w4.cell? ⟨w2.heap.size, k, none⟩ = some (.int .u64 0) := by
                refine (blk_cell hRow.out k).trans ?_
                have h1 := hnl.out
                have h2 := hk2.out
                simp only [List.getElem?_toArray, List.getElem?_map]
                rw [List.getElem?_append_right (by omega), List.getElem?_replicate, if_pos (by omega)]
                rfl
              have hfr : w4.frozen? ⟨w2.heap.size, k, none⟩ = false := by exact blk_frozen hRow.out k
              go_wp2_with fail
              go_roundw
              case measure => have := hk2.out; first | exact meas this | (rw [show (k : Int) + 1 = ((k + 1 : Nat) : Int) from rfl]; exact meas this)
              case rel =>
                have h1 := hnl.out
                have h2 := hk2.out
                refine ⟨k + 1, ns ++ [(u : Int)], h2, by go_num, by rw [List.length_append, h1]; rfl, ?_, ?_, ?_, ?_, below_set hB.out (Nat.le_refl _)⟩
                · intro y hy
                  rcases List.mem_append.1 hy with hy | hy
                  · exact hU.out y hy
                  · rw [List.mem_singleton.1 hy]; have := hul.out; omega
                · rw [hnx.out, hcp.out]; rfl
                · exact row_set h1 h2 hRow.out u
                · exact blk_far hObj.out (by show w2.heap.size + 1 ≠ w2.heap.size; omega) _
          · have cz : (c.toList == ([48] : List UInt8)) = false := beq_eq_false_iff_ne.mpr hz
            have hcp := Aside0.mk (show compP true (decide (k = 0)) c = none from by
              have hb : bad0 c = true := by unfold bad0; rw [cz, show Lib.hasPrefix c.data.toList [48] = true from eb.out.symm]; rfl
              unfold compP; rw [hb, Bool.or_true]; rfl)
            clear hz
            go_wp2_with fail
            refine (errNew _ _).mono ?_
            rintro e wE ⟨pE, rfl, hBE⟩
            have hBE := Aside0.mk (below_then (below_then hB2.out hB2.out.size hB.out) (below_then hB2.out hB2.out.size hB.out).size hBE)
            go_wp2_with fail
            refine bodyPost_ret (results_list (rs := [.tmp 4, .tmp 5]) rfl (by simp) (.tmp (.tmp .nil))) rfl ?_
            (first | rw [hnx.out, hcp.out] | skip); exact ⟨_, rfl, hBE.out⟩
      · have z1 : ((k : Int) == 0) = false := beq_eq_false_iff_ne.mpr (by omega)
        clear hk0
        obtain ⟨b, eb⟩ : ∃ b, b = Lib.hasPrefix c.data.toList (⟨#[48]⟩ : ByteArray).data.toList := ⟨_, rfl⟩
        go_wp2_with fail
        refine (Tryd.strings_HasPrefix c ⟨#[48]⟩ _).mono ?_
        rintro e w3 ⟨rfl, rfl⟩
        rw [← eb]
        replace eb := Aside0.mk eb
        cases b
        · have hcp := Aside0.mk (show (compP true (decide (k = 0)) c = (numU c).map (fun u => (u : Int))) from by
            have hb : bad0 c = false := by unfold bad0; rw [show Lib.hasPrefix c.data.toList [48] = false from eb.out.symm]; rfl
            unfold compP; rw [hb]; simp)
          cases hu : numU c with
          | none =>
            rw [hu] at hcp
            go_wp2_with fail
            refine (puNo c _ hsz.out hu (hV.out.below (below_then hB2.out hB2.out.size hB.out))).mono ?_
            rintro e w4 ⟨n4, p4, rfl, hB4⟩
            replace hB4 := Aside0.mk hB4
            go_wp2_with fail
            refine (errNew _ _).mono ?_
            rintro e wE ⟨pE, rfl, hBE⟩
            have hBE := Aside0.mk (below_then (below_then (below_then hB2.out hB2.out.size hB.out) (below_then hB2.out hB2.out.size hB.out).size hB4.out) (below_then (below_then hB2.out hB2.out.size hB.out) (below_then hB2.out hB2.out.size hB.out).size hB4.out).size hBE)
            go_wp2_with fail
            refine bodyPost_ret (results_list (rs := [.tmp 4, .tmp 5]) rfl (by simp) (.tmp (.tmp .nil))) rfl ?_
            (first | rw [hnx.out, hcp.out] | skip); exact ⟨_, rfl, hBE.out⟩
          | some u =>
            rw [hu] at hcp
            have hul := Aside0.mk (numU_lt hu)
            go_wp2_with fail
            refine (puYes c u _ hsz.out hu).mono ?_
            rintro e w4 ⟨rfl, hB4⟩
            replace hRow := Aside0.mk (hRow.out.below hB4)
            replace hObj := Aside0.mk (hObj.out.below hB4)
            replace hB := Aside0.mk (below_then hB.out hB.out.size hB4)
            clear hB4 hcell hu
            have hc0 := cV0 hObj.out
            have hst : w4.cell? ⟨w2.heap.size, k, none⟩ = some (.int .u64 0) := by
              refine (blk_cell hRow.out k).trans ?_
              have h1 := hnl.out
              have h2 := hk2.out
              simp only [List.getElem?_toArray, List.getElem?_map]
              rw [List.getElem?_append_right (by omega), List.getElem?_replicate, if_pos (by omega)]
              rfl
            have hfr : w4.frozen? ⟨w2.heap.size, k, none⟩ = false := by exact blk_frozen hRow.out k
            go_wp2_with fail
            go_roundw
            case measure => have := hk2.out; first | exact meas this | (rw [show (k : Int) + 1 = ((k + 1 : Nat) : Int) from rfl]; exact meas this)
            case rel =>
              have h1 := hnl.out
              have h2 := hk2.out
              refine ⟨k + 1, ns ++ [(u : Int)], h2, by go_num, by rw [List.length_append, h1]; rfl, ?_, ?_, ?_, ?_, below_set hB.out (Nat.le_refl _)⟩
              · intro y hy
                rcases List.mem_append.1 hy with hy | hy
                · exact hU.out y hy
                · rw [List.mem_singleton.1 hy]; have := hul.out; omega
              · rw [hnx.out, hcp.out]; rfl
              · exact row_set h1 h2 hRow.out u
              · exact blk_far hObj.out (by show w2.heap.size + 1 ≠ w2.heap.size; omega) _
        · by_cases hz : c.toList = [48]
          · have cz : (c.toList == ([48] : List UInt8)) = true := by rw [hz]; rfl
            have hcp := Aside0.mk (show (compP true (decide (k = 0)) c = (numU c).map (fun u => (u : Int))) from by
              have hb : bad0 c = false := by unfold bad0; rw [cz]; simp
              unfold compP; rw [hb]; simp)
            clear hz
            cases hu : numU c with
            | none =>
              rw [hu] at hcp
              go_wp2_with fail
              refine (puNo c _ hsz.out hu (hV.out.below (below_then hB2.out hB2.out.size hB.out))).mono ?_
              rintro e w4 ⟨n4, p4, rfl, hB4⟩
              replace hB4 := Aside0.mk hB4
              go_wp2_with fail
              refine (errNew _ _).mono ?_
              rintro e wE ⟨pE, rfl, hBE⟩
              have hBE := Aside0.mk (below_then (below_then (below_then hB2.out hB2.out.size hB.out) (below_then hB2.out hB2.out.size hB.out).size hB4.out) (below_then (below_then hB2.out hB2.out.size hB.out) (below_then hB2.out hB2.out.size hB.out).size hB4.out).size hBE)
              go_wp2_with fail
              refine bodyPost_ret (results_list (rs := [.tmp 4, .tmp 5]) rfl (by simp) (.tmp (.tmp .nil))) rfl ?_
              (first | rw [hnx.out, hcp.out] | skip); exact ⟨_, rfl, hBE.out⟩
            | some u =>
              rw [hu] at hcp
              have hul := Aside0.mk (numU_lt hu)
              go_wp2_with fail
              refine (puYes c u _ hsz.out hu).mono ?_
              rintro e w4 ⟨rfl, hB4⟩
              replace hRow := Aside0.mk (hRow.out.below hB4)
              replace hObj := Aside0.mk (hObj.out.below hB4)
              replace hB := Aside0.mk (below_then hB.out hB.out.size hB4)
              clear hB4 hcell hu
              have hc0 := cV0 hObj.out
              have hst : w4.cell? ⟨w2.heap.size, k, none⟩ = some (.int .u64 0) := by
                refine (blk_cell hRow.out k).trans ?_
                have h1 := hnl.out
                have h2 := hk2.out
                simp only [List.getElem?_toArray, List.getElem?_map]
                rw [List.getElem?_append_right (by omega), List.getElem?_replicate, if_pos (by omega)]
                rfl
              have hfr : w4.frozen? ⟨w2.heap.size, k, none⟩ = false := by exact blk_frozen hRow.out k
              go_wp2_with fail
              go_roundw
              case measure => have := hk2.out; first | exact meas this | (rw [show (k : Int) + 1 = ((k + 1 : Nat) : Int) from rfl]; exact meas this)
              case rel =>
                have h1 := hnl.out
                have h2 := hk2.out
                refine ⟨k + 1, ns ++ [(u : Int)], h2, by go_num, by rw [List.length_append, h1]; rfl, ?_, ?_, ?_, ?_, below_set hB.out (Nat.le_refl _)⟩
                · intro y hy
                  rcases List.mem_append.1 hy with hy | hy
                  · exact hU.out y hy
                  · rw [List.mem_singleton.1 hy]; have := hul.out; omega
                · rw [hnx.out, hcp.out]; rfl
                · exact row_set h1 h2 hRow.out u
                · exact blk_far hObj.out (by show w2.heap.size + 1 ≠ w2.heap.size; omega) _
          · have cz : (c.toList == ([48] : List UInt8)) = false := beq_eq_false_iff_ne.mpr hz
            have hcp := Aside0.mk (show compP true (decide (k = 0)) c = none from by
              have hb : bad0 c = true := by unfold bad0; rw [cz, show Lib.hasPrefix c.data.toList [48] = true from eb.out.symm]; rfl
              unfold compP; rw [hb, Bool.or_true]; rfl)
            clear hz
            go_wp2_with fail
            refine (errNew _ _).mono ?_
            rintro e wE ⟨pE, rfl, hBE⟩
            have hBE := Aside0.mk (below_then (below_then hB2.out hB2.out.size hB.out) (below_then hB2.out hB2.out.size hB.out).size hBE)
            go_wp2_with fail
            refine bodyPost_ret (results_list (rs := [.tmp 4, .tmp 5]) rfl (by simp) (.tmp (.tmp .nil))) rfl ?_
            (first | rw [hnx.out, hcp.out] | skip); exact ⟨_, rfl, hBE.out⟩
    · have c3b := decide_eq_false c3
      obtain rfl : k = cs.length := by omega
      have hfin : compsP true true cs = some ns := by
        rw [hC, List.drop_length]
        show some (ns ++ []) = some ns
        rw [List.append_nil]
      have hRow := Aside0.mk (show Row wr w2.heap.size ns from by have h := hRow.out; rwa [Nat.sub_self, List.replicate_zero, List.append_nil] at h)
      replace hfin := Aside0.mk hfin
      replace hnl := Aside0.mk hnl
      have hB3 := Aside0.mk (below_then hB2.out hB2.out.size hB.out)
      have hge := Aside0.mk (show w.heap.size ≤ w2.heap.size + 1 from Nat.le_succ_of_le hB2.out.size)
      clear hCk hC hk c3
      have hObj0 := hObj
      go_wp2_with fail
      refine (version_zzExtra.calls k2 x2 ex _ h4.out).mono ?_
      rintro e w5 ⟨v5, rfl, hR5, hv5, hB5⟩
      have hObj := Aside0.mk (hObj.out.below hB5)
      have hRow := Aside0.mk (hRow.out.below hB5)
      replace hB3 := Aside0.mk (below_then hB3.out hB3.out.size hB5)
      clear hv5
      obtain ⟨A5, cp5, rfl⟩ := Kd.R_slice hR5
      obtain ⟨g5, cap5, hv5, hbase5, hglt5, cells5, hcells5⟩ := Kd.R_form hR5 (by have := h5.out; omega)
      obtain ⟨rfl, rfl⟩ : A5 = some ⟨g5, 0, none⟩ ∧ cp5 = cap5 := by injection hv5 with e1 e2 e3; exact ⟨e1, e3⟩
      have rc1 : w5.cell? ⟨g5, 1, none⟩ = some (.string (rdOf ByteArray.empty ex 1)) := (Kd.R_cell (ByteArray.empty) hR5 1 (by omega) (by have := h5.out; omega)).1
      have rc2 : w5.cell? ⟨g5, 2, none⟩ = some (.string (rdOf ByteArray.empty ex 2)) := (Kd.R_cell (ByteArray.empty) hR5 2 (by omega) (by have := h5.out; omega)).1
      rw [hp1.out] at rc1
      rw [hp2.out] at rc2
      have z1 : (1 : Int) < (ex.length : Int) := by have := h5.out; omega
      have z2 : (2 : Int) < (ex.length : Int) := by have := h5.out; omega
      have hd0 := cV0 hObj.out
      have hd2 := cV2 hObj.out
      have hd3 := cV3 hObj.out
      have hf2 := blk_frozen hObj.out 2
      have hf3 := blk_frozen hObj.out 3
      have hne5 := Aside0.mk (show w2.heap.size + 1 < g5 from Nat.lt_of_lt_of_le (blk_lt hObj0.out) hbase5)
      clear hv5 hbase5 hglt5 hcells5 hB5 hR5
      have hnil := nilNo ⟨g5, 0, none⟩ ex.length cp5
      go_upto_region 23 with (fail)
      go_region
      obtain ⟨w6, hw6⟩ : ∃ x, ((w5.setCell ⟨w2.heap.size + 1, 2, none⟩ (.string pre)).setCell ⟨w2.heap.size + 1, 3, none⟩ (.string bld)).drew = x := ⟨_, rfl⟩
      have hObj6 : Obj4 w6 (w2.heap.size + 1) w2.heap.size cs.length true pre bld := by
        rw [← hw6]
        have h := blk_set (blk_set hObj.out 2 (.string pre)) 3 (.string bld)
        exact h
      have hRow6 : Row w6 w2.heap.size ns := by
        rw [← hw6]
        exact blk_far (blk_far hRow.out (by show w2.heap.size ≠ w2.heap.size + 1; omega) _) (by show w2.heap.size ≠ w2.heap.size + 1; omega) _
      have hB6 : Below w.heap.size w w6 := by
        rw [← hw6]
        exact pw_below_drewN (below_set (below_set hB3.out hge.out) hge.out) 1
      rw [hw6]
      replace hObj6 := Aside0.mk hObj6
      replace hRow6 := Aside0.mk hRow6
      replace hB6 := Aside0.mk hB6
      clear hw6 hnil rc1 rc2 z1 z2 hd0 hd2 hd3 hf2 hf3 hObj hRow hB3
      have hd2 := cV2 hObj6.out
      go_wp2_with fail
      refine (version_zzSplit.calls k2 pre ⟨#[46]⟩ ps _ h6.out).mono ?_
      rintro e w7 ⟨v7, rfl, hR7, hB7⟩
      obtain ⟨A7, c7, rfl, hc7, hC7⟩ := Kd.R_reads hR7
      replace hc7 := Aside0.mk hc7
      replace hObj6 := Aside0.mk (hObj6.out.below hB7)
      replace hRow6 := Aside0.mk (hRow6.out.below hB7)
      replace hB6 := Aside0.mk (below_then hB6.out hB6.out.size hB7)
      clear hR7 hB7 hd2
      go_wp2_with fail
      go_loopw [120] (fun i wr => ∃ k : Nat, k ≤ ps.length ∧ i = .int .i64 k ∧ (ps.take k).any badId = false ∧ Below w7.heap.size w7 wr) (fun i _ => ps.length - (intOf i).toNat)
      case atStart => exact ⟨0, Nat.zero_le _, rfl, rfl, Below.refl _ _⟩
      case round =>
        obtain ⟨k, hk, rfl, hany, hB⟩ := hrel
        have hCk := Kd.C_below hC7 hB
        replace hany := Aside0.mk hany
        replace hB := Aside0.mk hB
        by_cases c3 : (k : Int) < (ps.length : Int)
        · obtain ⟨c, hc⟩ : ∃ c, rdOf ByteArray.empty ps (k : Int) = c := ⟨_, rfl⟩
          have hcl := rdOf_at hc (by omega)
          have hsz := Aside0.mk (hsp.out c (List.mem_of_getElem? hcl))
          have hbad := Aside0.mk (show badId c = true → ps.any badId = true from fun h => List.any_eq_true.2 ⟨c, List.mem_of_getElem? hcl, h⟩)
          have hnx := Aside0.mk (show badId c = false → (ps.take (k + 1)).any badId = false from fun h => by rw [List.take_add_one, hcl, Option.toList_some, List.any_append, hany.out, List.any_cons, h]; rfl)
          have p := Int.natCast_nonneg k
          obtain ⟨ad, e1, hcell⟩ := Kd.at_string hCk (k : Int) p c3
          rw [hc, Int.toNat_natCast] at hcell
          cases e1
          have c3b := decide_eq_true c3
          have hk2 := Aside0.mk (show k + 1 ≤ ps.length by omega)
          replace p := eq_true p
          replace c3 := eq_true c3
          clear hCk hc hcl
          cases hu : numU c with
          | none =>
            have hb := Aside0.mk (show badId c = false from by unfold badId; rw [hu]; rfl)
            go_wp2_with fail
            refine (puNo c _ hsz.out hu (hV.out.below (below_then hB6.out hB6.out.size hB.out))).mono ?_
            rintro e w8 ⟨n8, p8, rfl, hB8⟩
            replace hB := Aside0.mk (below_then hB.out hB.out.size hB8)
            clear hB8 hu
            go_wp2_with fail
            go_roundw
            case measure => have := hk2.out; first | exact meas this | (rw [show (k : Int) + 1 = ((k + 1 : Nat) : Int) from rfl]; exact meas this)
            case rel => exact ⟨k + 1, hk2.out, by go_num, hnx.out hb.out, hB.out⟩
          | some u =>
            go_wp2_with fail
            refine (puYes c u _ hsz.out hu).mono ?_
            rintro e w8 ⟨rfl, hB8⟩
            replace hB := Aside0.mk (below_then hB.out hB.out.size hB8)
            replace hu := Aside0.mk hu
            clear hB8
            obtain ⟨b, eb⟩ : ∃ b, b = Lib.hasPrefix c.data.toList (⟨#[48]⟩ : ByteArray).data.toList := ⟨_, rfl⟩
            go_wp2_with fail
            refine (Tryd.strings_HasPrefix c ⟨#[48]⟩ _).mono ?_
            rintro e w9 ⟨rfl, rfl⟩
            rw [← eb]
            replace eb := Aside0.mk eb
            cases b
            · have hb := Aside0.mk (show badId c = false from by unfold badId bad0; rw [show Lib.hasPrefix c.data.toList [48] = false from eb.out.symm, Bool.false_and, Bool.and_false])
              go_wp2_with fail
              go_roundw
              case measure => have := hk2.out; first | exact meas this | (rw [show (k : Int) + 1 = ((k + 1 : Nat) : Int) from rfl]; exact meas this)
              case rel => exact ⟨k + 1, hk2.out, by go_num, hnx.out hb.out, hB.out⟩
            · by_cases hz : c.toList = [48]
              · have cz : (c.toList == ([48] : List UInt8)) = true := by rw [hz]; rfl
                have hb := Aside0.mk (show badId c = false from by unfold badId bad0; rw [cz, Bool.not_true, Bool.and_false, Bool.and_false])
                clear hz
                go_wp2_with fail
                go_roundw
                case measure => have := hk2.out; first | exact meas this | (rw [show (k : Int) + 1 = ((k + 1 : Nat) : Int) from rfl]; exact meas this)
                case rel => exact ⟨k + 1, hk2.out, by go_num, hnx.out hb.out, hB.out⟩
              · have cz : (c.toList == ([48] : List UInt8)) = false := beq_eq_false_iff_ne.mpr hz
                have hb := Aside0.mk (show badId c = true from by unfold badId bad0; rw [cz, hu.out, show Lib.hasPrefix c.data.toList [48] = true from eb.out.symm]; rfl)
                clear hz
                go_wp2_with fail
                refine (errNew _ _).mono ?_
                rintro e wE ⟨pE, rfl, hBE⟩
                have hBE := Aside0.mk (below_then (below_then hB6.out hB6.out.size hB.out) (below_then hB6.out hB6.out.size hB.out).size hBE)
                go_wp2_with fail
                refine bodyPost_ret (results_list (rs := [.tmp 4, .tmp 5]) rfl (by simp) (.tmp (.tmp .nil))) rfl ?_
                rw [hfin.out]
                show Post true (tl ps pre bld ns) _ _ _
                unfold tl
                rw [if_pos (hbad.out hb.out)]
                exact ⟨_, rfl, hBE.out⟩
        · have c3b := decide_eq_false c3
          obtain rfl : k = ps.length := by omega
          replace hany := Aside0.mk (show ps.any badId = false from by have h := hany.out; rwa [List.take_length] at h)
          have hB9 := Aside0.mk (below_then hB6.out hB6.out.size hB.out)
          replace hObj6 := Aside0.mk (hObj6.out.below hB.out)
          replace hRow6 := Aside0.mk (hRow6.out.below hB.out)
          clear hCk hk c3
          go_wp2_with fail
          refine bodyPost_ret (results_list (rs := [.tmp 4, .tmp 5]) rfl (by simp) (.tmp (.tmp .nil))) rfl ?_
          rw [hfin.out]
          show Post true (tl ps pre bld ns) _ _ _
          unfold tl
          rw [if_neg (by rw [hany.out]; decide)]
          exact ⟨_, rfl, hge.out, isVer_of hnl.out hObj6.out hRow6.out hn, hU.out, hB9.out⟩
end Go.Proofs.YtmfgkidppchobaaDoor.Ver4

set_option linter.unusedSimpArgs false
set_option linter.unusedVariables false
namespace Go.Proofs.YtmfgkidppchobaaDoor.Ver5
open Go.RowKit Go.Proofs.YtmfgkidppchobaaDoorW.PrintWords Go.Proofs.YtmfgkidppchobaaDoorW.PrintLast Go.Proofs.YtmfgkidppchobaaDoor.XFnVersionWays Go.Proofs.YtmfgkidppchobaaDoor.Ver1 Go.Proofs.YtmfgkidppchobaaDoor.Ver2 Go.Proofs.YtmfgkidppchobaaDoor.Ver3 Go.Proofs.YtmfgkidppchobaaDoor.Ver4

set_option maxHeartbeats 4000000 in
set_option maxRecDepth 100000 in
theorem parse_few (k : Nat) (s : ByteArray) (l : List ByteArray) (x1 x2 : ByteArray) (cs : List ByteArray) (w : World) (h1 : version_zzVersion.f k s = some l) (hl3 : l.length = 3) (hx1 : rdOf ByteArray.empty l 1 = x1) (hx2 : rdOf ByteArray.empty l 2 = x2) (h2 : version_zzSplit.f k x1 ⟨#[46]⟩ = some cs) (hs : ∀ c ∈ cs, c.size ≤ 140737488351232) (hn : cs.length ≤ 4294967296) (hns : cs.length < 2) (h3 : True) (hV : VT.V w) :
    Calls Tryd.prog 58 #[.string s, .bool false] w (Post false none w) := by
  replace hs := Aside0.mk hs
  replace hns := Aside0.mk hns
  replace hV := Aside0.mk hV
  replace h2 := Aside0.mk h2
  replace h3 := Aside0.mk h3
  go_enter Tryd.func58, Tryd.ntmps58
  go_wp2_with fail
  refine (version_zzVersion.calls k s l _ h1).mono ?_
  rintro e w1 ⟨v1, rfl, hR1, _, hB1⟩
  obtain ⟨A1, cp1, rfl⟩ := Kd.R_slice hR1
  obtain ⟨g1, cap1, hv1, hbase1, hglt1, cells1, hcells1⟩ := Kd.R_form hR1 (by omega)
  obtain ⟨rfl, rfl⟩ : A1 = some ⟨g1, 0, none⟩ ∧ cp1 = cap1 := by injection hv1 with e1 e2 e3; exact ⟨e1, e3⟩
  have rc1 : w1.cell? ⟨g1, 1, none⟩ = some (.string (rdOf ByteArray.empty l 1)) := (Kd.R_cell (ByteArray.empty) hR1 1 (by omega) (by omega)).1
  have rc2 : w1.cell? ⟨g1, 2, none⟩ = some (.string (rdOf ByteArray.empty l 2)) := (Kd.R_cell (ByteArray.empty) hR1 2 (by omega) (by omega)).1
  rw [hx1] at rc1
  rw [hx2] at rc2
  have z1 : (1 : Int) < (l.length : Int) := by omega
  have z2 : (2 : Int) < (l.length : Int) := by omega
  have hB1 := Aside0.mk hB1
  have hR1 := Aside0.mk hR1
  replace h1 := Aside0.mk h1
  replace hl3 := Aside0.mk hl3
  have hnil := nilNo ⟨g1, 0, none⟩ l.length cp1
  clear hv1 hcells1 hbase1 hglt1 hx1 hx2
  go_upto_region 4 with (fail)
  clear hnil
  go_region
  have hBd := Aside0.mk (show Below w.heap.size w w1.drew from pw_below_drewN hB1.out 1)
  clear rc1 rc2 z1 z2
  go_wp2_with fail
  refine (version_zzSplit.calls k x1 ⟨#[46]⟩ cs _ h2.out).mono ?_
  rintro e w2 ⟨v2, rfl, hR2, hB2⟩
  obtain ⟨A2, c2, rfl, hc2, hC2⟩ := Kd.R_reads hR2
  replace hc2 := Aside0.mk hc2
  have hB2 := Aside0.mk (below_then hBd.out hBd.out.size hB2)
  clear hR2 hB1 hR1 hBd
  have cn1 : decide ((cs.length : Int) < 2) = true := decide_eq_true (by have := hns.out; omega)
  have cn2 : decide (cs.length < 2) = true := decide_eq_true (by have := hns.out; omega)
  go_wp2_with fail
  refine (errNew _ _).mono ?_
  rintro e wE ⟨pE, rfl, hBE⟩
  have hBE := Aside0.mk (below_then hB2.out hB2.out.size hBE)
  go_wp2_with fail
  refine bodyPost_ret (results_list (rs := [.tmp 4, .tmp 5]) rfl (by simp) (.tmp (.tmp .nil))) rfl ?_
  exact ⟨_, rfl, hBE.out⟩
set_option maxHeartbeats 4000000 in
set_option maxRecDepth 100000 in
theorem parse_odd (k : Nat) (s : ByteArray) (l : List ByteArray) (x1 x2 : ByteArray) (cs : List ByteArray) (w : World) (h1 : version_zzVersion.f k s = some l) (hl3 : l.length = 3) (hx1 : rdOf ByteArray.empty l 1 = x1) (hx2 : rdOf ByteArray.empty l 2 = x2) (h2 : version_zzSplit.f k x1 ⟨#[46]⟩ = some cs) (hs : ∀ c ∈ cs, c.size ≤ 140737488351232) (hn : cs.length ≤ 4294967296) (hns : ¬ cs.length = 3) (h3 : True) (hV : VT.V w) :
    Calls Tryd.prog 58 #[.string s, .bool true] w (Post true none w) := by
  replace hs := Aside0.mk hs
  replace hns := Aside0.mk hns
  replace hV := Aside0.mk hV
  replace h2 := Aside0.mk h2
  replace h3 := Aside0.mk h3
  go_enter Tryd.func58, Tryd.ntmps58
  go_wp2_with fail
  refine (version_zzVersion.calls k s l _ h1).mono ?_
  rintro e w1 ⟨v1, rfl, hR1, _, hB1⟩
  obtain ⟨A1, cp1, rfl⟩ := Kd.R_slice hR1
  obtain ⟨g1, cap1, hv1, hbase1, hglt1, cells1, hcells1⟩ := Kd.R_form hR1 (by omega)
  obtain ⟨rfl, rfl⟩ : A1 = some ⟨g1, 0, none⟩ ∧ cp1 = cap1 := by injection hv1 with e1 e2 e3; exact ⟨e1, e3⟩
  have rc1 : w1.cell? ⟨g1, 1, none⟩ = some (.string (rdOf ByteArray.empty l 1)) := (Kd.R_cell (ByteArray.empty) hR1 1 (by omega) (by omega)).1
  have rc2 : w1.cell? ⟨g1, 2, none⟩ = some (.string (rdOf ByteArray.empty l 2)) := (Kd.R_cell (ByteArray.empty) hR1 2 (by omega) (by omega)).1
  rw [hx1] at rc1
  rw [hx2] at rc2
  have z1 : (1 : Int) < (l.length : Int) := by omega
  have z2 : (2 : Int) < (l.length : Int) := by omega
  have hB1 := Aside0.mk hB1
  have hR1 := Aside0.mk hR1
  replace h1 := Aside0.mk h1
  replace hl3 := Aside0.mk hl3
  have hnil := nilNo ⟨g1, 0, none⟩ l.length cp1
  clear hv1 hcells1 hbase1 hglt1 hx1 hx2
  go_upto_region 4 with (fail)
  clear hnil
  go_region
  have hBd := Aside0.mk (show Below w.heap.size w w1.drew from pw_below_drewN hB1.out 1)
  clear rc1 rc2 z1 z2
  go_wp2_with fail
  refine (version_zzSplit.calls k x1 ⟨#[46]⟩ cs _ h2.out).mono ?_
  rintro e w2 ⟨v2, rfl, hR2, hB2⟩
  obtain ⟨A2, c2, rfl, hc2, hC2⟩ := Kd.R_reads hR2
  replace hc2 := Aside0.mk hc2
  have hB2 := Aside0.mk (below_then hBd.out hBd.out.size hB2)
  clear hR2 hB1 hR1 hBd
  have cn1 : ((cs.length : Int) != 3) = true := bne_iff_ne.mpr (by have := hns.out; omega)
  have cn2 : (cs.length != 3) = true := bne_iff_ne.mpr hns.out
  go_wp2_with fail
  refine (errNew _ _).mono ?_
  rintro e wE ⟨pE, rfl, hBE⟩
  have hBE := Aside0.mk (below_then hB2.out hB2.out.size hBE)
  go_wp2_with fail
  refine bodyPost_ret (results_list (rs := [.tmp 4, .tmp 5]) rfl (by simp) (.tmp (.tmp .nil))) rfl ?_
  exact ⟨_, rfl, hBE.out⟩

abbrev PV := List Int × ByteArray × ByteArray
def okV (r : Option PV) : Prop := match r with
  | none => True
  | some (ns, pre, bld) => 2 ≤ ns.length ∧ ns.length ≤ 4294967296 ∧ pre.size ≤ 4294967296 ∧ bld.size ≤ 4294967296
instance (r : Option PV) : Decidable (okV r) := by unfold okV; split <;> infer_instance
def okC (cs : List ByteArray) : Prop := (∀ c ∈ cs, c.size ≤ 140737488351232) ∧ cs.length ≤ 4294967296
instance (cs : List ByteArray) : Decidable (okC cs) := by unfold okC; infer_instance
/-- What the pieces of a text come to. -/
def restF (k : Nat) (sv : Bool) (x2 : ByteArray) (cs : List ByteArray) : Option (Option PV) :=
  if sv = false then (if cs.length < 2 then some none else some ((compsP false true cs).map fun ns => (ns, E0, E0)))
  else if ¬ cs.length = 3 then some none
  else if x2.toList = [] then some ((compsP true true cs).map fun ns => (ns, E0, E0))
  else (version_zzExtra.f k x2).bind fun ex => if ex = [] then some none else if ex.length = 3 then
    (version_zzSplit.f k (rdOf ByteArray.empty ex 1) ⟨#[46]⟩).bind fun ps => if okC ps then some ((compsP true true cs).bind (tl ps (rdOf ByteArray.empty ex 1) (rdOf ByteArray.empty ex 2))) else none
  else none
/-- A text's version, or none. -/
def parseF (k : Nat) (sv : Bool) (s : ByteArray) : Option (Option PV) :=
  (version_zzVersion.f k s).bind fun l => if l = [] then some none else if l.length = 3 then
    (version_zzSplit.f k (rdOf ByteArray.empty l 1) ⟨#[46]⟩).bind fun cs => if okC cs then restF k sv (rdOf ByteArray.empty l 2) cs else none
  else none
theorem parse_calls (k : Nat) (s : ByteArray) (sv : Bool) (r : Option PV) (w : World) (h : parseF k sv s = some r) (hV : VT.V w) :
    Calls Tryd.prog 58 #[.string s, .bool sv] w (Post sv r w) := by
  unfold parseF at h
  obtain ⟨l, h1, h⟩ := Option.bind_eq_some_iff.mp h
  by_cases hl : l = []
  · rw [if_pos hl] at h
    obtain rfl := Option.some.inj h
    subst hl
    exact parse_nil k s sv w h1
  rw [if_neg hl] at h
  by_cases hl3 : l.length = 3
  case neg => rw [if_neg hl3] at h; cases h
  rw [if_pos hl3] at h
  obtain ⟨cs, h2, h⟩ := Option.bind_eq_some_iff.mp h
  by_cases hok : okC cs
  case neg =>
    rw [if_neg hok] at h; cases h
  rw [if_pos hok] at h
  unfold restF at h
  cases sv with
  | false =>
    rw [if_pos rfl] at h
    by_cases hf : cs.length < 2
    · rw [if_pos hf] at h
      obtain rfl := Option.some.inj h
      exact parse_few k s l _ _ cs w h1 hl3 rfl rfl h2 hok.1 hok.2 hf trivial hV
    · rw [if_neg hf] at h
      obtain rfl := Option.some.inj h
      exact parse_gen k s l _ _ cs w h1 hl3 rfl rfl h2 hok.1 hok.2 hV hf trivial
  | true =>
    rw [if_neg (by decide)] at h
    by_cases hf : cs.length = 3
    case neg =>
      rw [if_pos hf] at h
      obtain rfl := Option.some.inj h
      exact parse_odd k s l _ _ cs w h1 hl3 rfl rfl h2 hok.1 hok.2 hf trivial hV
    rw [if_neg (fun h => h hf)] at h
    by_cases hx : (rdOf ByteArray.empty l 2).toList = []
    · rw [if_pos hx] at h
      obtain rfl := Option.some.inj h
      exact parse_sem1 k s l _ _ cs w h1 hl3 rfl rfl h2 hok.1 hok.2 hf hx hV
    rw [if_neg hx] at h
    obtain ⟨ex, h4, h⟩ := Option.bind_eq_some_iff.mp h
    by_cases he : ex = []
    · rw [if_pos he] at h
      obtain rfl := Option.some.inj h
      have h9 := parse_sem2 k s l _ _ cs w h1 hl3 rfl rfl h2 hok.1 hok.2 hf hx hV k ex h4 he
      rwa [show ((compsP true true cs).bind fun _ => (none : Option PV)) = none from by cases compsP true true cs <;> rfl] at h9
    rw [if_neg he] at h
    by_cases he3 : ex.length = 3
    case neg =>
      rw [if_neg he3] at h; cases h
    rw [if_pos he3] at h
    obtain ⟨ps, h6, h⟩ := Option.bind_eq_some_iff.mp h
    by_cases hop : okC ps
    case neg =>
      rw [if_neg hop] at h; cases h
    rw [if_pos hop] at h
    obtain rfl := Option.some.inj h
    exact parse_sem3 k s l _ _ cs w h1 hl3 rfl rfl h2 hok.1 hok.2 hf hx hV k ex h4 he3 _ _ rfl rfl ps h6 hop.1 hop.2
end Go.Proofs.YtmfgkidppchobaaDoor.Ver5
