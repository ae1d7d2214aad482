/- IntOrString's Unmarshal walked: the bytes of a value, cut anywhere: the fields ahead, or an error. -/
import Derived.Test.YtmkpkpkcoieeiabDoorProg
import Derived.Test.YtmkpkpkcoieeiabDoorIsB
import Derived.Test.YtmkpkpkcoieeiabDoorXIsx1
import Derived.Outline
import Derived.LoopTactic
import Derived.DataElems
set_option linter.unusedSimpArgs false
set_option linter.unusedVariables false
namespace Go.Proofs.YtmkpkpkcoieeiabDoor.IsU
open Go.RowKit Go.Proofs.YtmkpkpkcoieeiabDoorW.PrintWords Go.Proofs.YtmkpkpkcoieeiabDoorW.PrintLast Go.Proofs.YtmkpkpkcoieeiabDoor.IsM Go.Proofs.YtmkpkpkcoieeiabDoor.IsB
abbrev E0 : ByteArray := ⟨#[]⟩
def IsO (w : World) (g : Nat) (t i : Int) (s : ByteArray) : Prop := w.heap[g]? = some (.cells #[.int .i64 t, .int .i32 i, .string s] 63 (0, 0))
/-- io.ErrUnexpectedEOF is an error. -/
def VE (w : World) : Prop := ∃ t p, w.cell? ⟨1, 0, none⟩ = some (.iface t p)
def Res (x y : Nat) (s : List Nat) (S : ByteArray) (n : Nat) : Option (Int × Int × ByteArray) :=
  if n = 0 then some (0, 0, E0) else if n = p1 x then some (IntKind.i64.wrap (x : Int), 0, E0) else if n = p2 x y then some (IntKind.i64.wrap (x : Int), IntKind.i32.wrap (y : Int), E0)
  else if n = p3 x y s.length + s.length then some (IntKind.i64.wrap (x : Int), IntKind.i32.wrap (y : Int), S) else none
def UPost (g : Nat) (r : Option (Int × Int × ByteArray)) (w : World) (e : Ending) (w' : World) : Prop := w.grownBy w' (some g) ∧ match r with
  | none => ∃ t p, e = .returned (.iface t p)
  | some (T, I, S) => e = .returned .nilIface ∧ IsO w' g T I S
/-- What has been read. -/
def St (x y : Nat) (s : List Nat) (S : ByteArray) (g k : Nat) (w : World) : Prop :=
  (k = 0 ∧ IsO w g 0 0 E0) ∨ (k = p1 x ∧ IsO w g (IntKind.i64.wrap (x : Int)) 0 E0) ∨ (k = p2 x y ∧ IsO w g (IntKind.i64.wrap (x : Int)) (IntKind.i32.wrap (y : Int)) E0) ∨
  (k = p3 x y s.length + s.length ∧ IsO w g (IntKind.i64.wrap (x : Int)) (IntKind.i32.wrap (y : Int)) S)
theorem res_at {x y : Nat} {s : List Nat} {S : ByteArray} {g k : Nat} {w : World} (h : St x y s S g k w) : ∃ T I Z, Res x y s S k = some (T, I, Z) ∧ IsO w g T I Z := by
  have a1 := vl_pos x
  have a2 := vl_pos y
  have a3 := vl_pos s.length
  unfold Res
  rcases h with ⟨h, ho⟩ | ⟨h, ho⟩ | ⟨h, ho⟩ | ⟨h, ho⟩
  · exact ⟨_, _, _, by rw [if_pos h], ho⟩
  · exact ⟨_, _, _, by rw [if_neg (by unfold p1 at h; omega), if_pos h], ho⟩
  · exact ⟨_, _, _, by rw [if_neg (by unfold p2 p1 at h; omega), if_neg (by unfold p2 p1 at *; omega), if_pos h], ho⟩
  · exact ⟨_, _, _, by rw [if_neg (by unfold p3 p2 p1 at h; omega), if_neg (by unfold p3 p2 p1 at *; omega), if_neg (by unfold p3 p2 p1 at *; omega), if_pos h], ho⟩
theorem res_0 {x y : Nat} {s : List Nat} {S : ByteArray} {n : Nat} (h0 : 0 < n) (h1 : n < p1 x) : Res x y s S n = none := by
  have a2 := vl_pos y
  have a3 := vl_pos s.length
  unfold Res
  rw [if_neg (by omega), if_neg (by omega), if_neg (by unfold p2; omega), if_neg (by unfold p3 p2; omega)]
theorem res_1 {x y : Nat} {s : List Nat} {S : ByteArray} {n : Nat} (h0 : p1 x < n) (h1 : n < p2 x y) : Res x y s S n = none := by
  have a1 := vl_pos x
  have a3 := vl_pos s.length
  unfold Res
  rw [if_neg (by omega), if_neg (by omega), if_neg (by omega), if_neg (by unfold p3; omega)]
theorem res_2 {x y : Nat} {s : List Nat} {S : ByteArray} {n : Nat} (h0 : p2 x y < n) (h1 : n < p3 x y s.length + s.length) : Res x y s S n = none := by
  have a1 := vl_pos x
  have a2 := vl_pos y
  unfold Res
  rw [if_neg (by omega), if_neg (by unfold p2 at h0; omega), if_neg (by omega), if_neg (by omega)]
theorem upost_bad {g n : Nat} {x y : Nat} {s : List Nat} {S : ByteArray} {w w' : World} {e : Ending} (hr : Res x y s S n = none) (hG : w.grownBy w' (some g)) (h : ∃ t p, e = .returned (.iface t p)) : UPost g (Res x y s S n) w e w' := by
  rw [hr]; exact ⟨hG, h⟩
theorem upost_good {g n : Nat} {x y : Nat} {s : List Nat} {S : ByteArray} {w w' : World} {e : Ending} (hS : St x y s S g n w') (hG : w.grownBy w' (some g)) (h : e = .returned .nilIface) : UPost g (Res x y s S n) w e w' := by
  obtain ⟨T, I, Z, e1, ho⟩ := res_at hS
  rw [e1]; exact ⟨hG, h, ho⟩
theorem blk_mem {w : World} {q : Addr} {g : Nat} {cs : Array Value} {t : TypeId} {v : Value} (hq : q.block = g) (hb : w.heap[g]? = some (.cells cs t (0, 0))) (h : w.cell? q = some v) : v ∈ cs := by
  subst hq
  unfold World.cell? at h
  rw [hb] at h
  simp at h
  exact Array.mem_of_getElem? h.2
theorem C_kept {w w1 : World} {A : Option Addr} {n g : Nat} {L : List Int} {t i : Int} {s : ByteArray} (h : (Kd.int .u8).C w A n L) (ho : IsO w g t i s) (hg : w.grownBy w1 (some g)) : (Kd.int .u8).C w1 A n L := by
  obtain ⟨h1, h2, h3⟩ := h
  refine ⟨h1, h2, fun hn => ?_⟩
  obtain ⟨ad, e, hc⟩ := h3 hn
  refine ⟨ad, e, fun j p hj => ?_⟩
  obtain ⟨c, hs, hr, hcell⟩ := hc j p hj
  refine ⟨c, hs, hr, fun i u hu => hg.cell (hcell i u hu) (fun e1 => ?_)⟩
  have e2 := hcell i u hu
  have hm := blk_mem (Option.some.inj e1) ho e2
  have hr' : c = [.int .u8 p] := hr
  subst hr'
  have hu' : u = .int .u8 p := by
    have := (List.getElem?_eq_some_iff.1 hu)
    obtain ⟨hl, hv⟩ := this
    obtain rfl : i = 0 := by simp at hl; omega
    exact hv.symm
  subst hu'
  simp at hm
theorem VE_kept {w w1 : World} {g : Nat} {t i : Int} {s : ByteArray} (h : VE w) (ho : IsO w g t i s) (hg : w.grownBy w1 (some g)) : VE w1 := by
  obtain ⟨T, p, hc⟩ := h
  refine ⟨T, p, hg.cell hc (fun e1 => ?_)⟩
  have hm := blk_mem (Option.some.inj e1) ho hc
  simp at hm
theorem IsO.set0 {w : World} {g : Nat} {t i : Int} {s : ByteArray} (h : IsO w g t i s) (u : Int) : IsO (w.setCell ⟨g, 0, none⟩ (.int .i64 u)) g u i s := by simpa [IsO] using blk_set h 0 (.int .i64 u)
theorem IsO.set1 {w : World} {g : Nat} {t i : Int} {s : ByteArray} (h : IsO w g t i s) (u : Int) : IsO (w.setCell ⟨g, 1, none⟩ (.int .i32 u)) g t u s := by simpa [IsO] using blk_set h 1 (.int .i32 u)
theorem IsO.set2 {w : World} {g : Nat} {t i : Int} {s : ByteArray} (h : IsO w g t i s) (u : ByteArray) : IsO (w.setCell ⟨g, 2, none⟩ (.string u)) g t i u := by simpa [IsO] using blk_set h 2 (.string u)
theorem grown_set {a w : World} {g : Nat} (h : a.grownBy w (some g)) (j : Nat) (u : Value) : a.grownBy (w.setCell ⟨g, j, none⟩ u) (some g) :=
  ⟨h.os, h.tape, h.output, by simpa [World.setCell] using h.size, fun i hi hne => (Below.heap_setCell w ⟨g, j, none⟩ u i (by rintro rfl; exact hne rfl)).trans (h.block i hi hne)⟩
/-- A part of the bytes, as a text. -/
theorem cutStr (ad : Addr) (n c a b : Nat) (hab : a ≤ b) (hbn : b ≤ n) (hnc : n ≤ c) (W : World) (l : List UInt8) (hl : l.length = b - a) (hc : ∀ j (hj : j < l.length), W.cell? (ad.add (a + j)) = some (.int .u8 (l[j].toNat : Int))) :
    ∃ ad', (∀ W : World, (Instr.slice 27 (.slice (some ad) n c) (some (.int .i64 (a : Int))) (some (.int .i64 (b : Int))) none).run Tryd.prog W = .ok (.slice (some ad') (b - a) (c - a)) W) ∧
      (convert 27 9 (.slice (some ad') (b - a) (c - a))).run Tryd.prog W = .ok (.string ⟨l.toArray⟩) W := by
  obtain ⟨i, hi, hq⟩ : ∃ i, Tryd.prog.info? 5 = some i ∧ (i.zero, i.size, i.bytes) = (some (Value.int .u8 0), 1, 1) := by
    have h : (Tryd.prog.info? 5).map (fun i => (i.zero, i.size, i.bytes)) = some (some (Value.int .u8 0), 1, 1) := by kernel_rfl
    cases hc : Tryd.prog.info? 5 with
    | none => rw [hc] at h; cases h
    | some i => rw [hc] at h; exact ⟨i, rfl, Option.some.inj h⟩
  have hsz : i.size = 1 := congrArg (fun x => x.2.1) hq
  have hel : Tryd.prog.elem 27 = 5 := by simp [Program.elem, Tryd.underlying27]
  have hu : Tryd.prog.underlying 27 = some (.slice (Tryd.prog.elem 27)) := by rw [hel]; exact Tryd.underlying27
  refine ⟨if c = a then ad else ad.add a, fun W => ?_, ?_⟩
  · rw [run_slice_lh W 27 (some ad) n c hu .i64 .i64 (a : Int) (b : Int) (by omega) (by omega) (by omega), hel]
    simp [sizeOf, typeInfo, hi, hsz, sliced, Result.andThen]
    split <;> rfl
  · rw [← hl]
    refine run_convert_bytes_back W 27 9 5 _ (c - a) l Tryd.underlying27 Tryd.underlying5 Tryd.underlying9 (fun j hj => ?_)
    have := hc j hj
    by_cases h : c = a
    · omega
    · rw [if_neg h, Addr.add_add]
      exact this

set_option maxHeartbeats 8000000 in
set_option maxRecDepth 100000 in
theorem unm (A : Option Addr) (n c : Nat) (x y : Nat) (s : List Nat) (S : ByteArray) (L : List Int) (g : Nat) (w : World) (hr : (Kd.int .u8).C w A n L) (hnc : n ≤ c) (hn : n ≤ 4294967296) (hg : IsO w g 0 0 E0) (hV : VE w)
    (hx : x < 18446744073709551616) (hy : y < 18446744073709551616) (hz : s.length ≤ 2147483647) (hs : s = S.data.toList.map (·.toNat))
    (hL : ∀ i v, i < n → (wire x y s)[i]? = some v → rd L i = (v : Int)) (hlen : n ≤ (wire x y s).length) :
    Calls Tryd.prog 27 #[.pointer (some ⟨g, 0, none⟩), .slice A n c] w (UPost g (Res x y s S n) w) := by
  replace hr := Aside0.mk hr
  have hg0 := Aside0.mk hg
  have hV0 := Aside0.mk hV
  have hL0 := Aside0.mk hL
  have hx0 := Aside0.mk (And.intro hx hy)
  have hz0 := Aside0.mk hz
  have hs0 := Aside0.mk hs
  have hlen0 := Aside0.mk hlen
  have hnc0 := Aside0.mk hnc
  clear hg hV hL hx hy hz hs hlen hnc
  go_enter Tryd.func27, Tryd.ntmps27
  go_wp2_with fail
  go_loopw [6] (fun i wr => ∃ k : Nat, k ≤ n ∧ i = .int .i64 k ∧ Aside0 (St x y s S g k wr) ∧ Aside0 (w.grownBy wr (some g))) (fun i _ => n - (intOf i).toNat)
  case atStart => exact ⟨0, Nat.zero_le _, rfl, ⟨.inl ⟨rfl, hg0.out⟩⟩, ⟨World.grownBy.refl _ _⟩⟩
  case round =>
    obtain ⟨k, hk, rfl, hS, hG⟩ := hrel
    by_cases hlt : k < n
    case neg =>
      obtain rfl : k = n := by omega
      have h0 : decide ((k : Int) < (k : Int)) = false := decide_eq_false (by omega)
      have h1 : decide (k < k) = false := decide_eq_false (by omega)
      clear hlt
      go_wp2_with fail
      go_ret
      exact upost_good hS.out hG.out rfl
    case pos =>
      have h0 : decide ((k : Int) < (n : Int)) = true := decide_eq_true (by omega)
      have h1 : decide (k < n) = true := decide_eq_true (by omega)
      have h2 : decide ((n : Int) ≤ (k : Int)) = false := decide_eq_false (by omega)
      have h3 : decide (n ≤ k) = false := decide_eq_false (by omega)
      have qi : (k < n) = True := eq_true hlt
      have hk1 := Aside0.mk hlt
      obtain ⟨ad, e1, hcell⟩ := Kd.at_int (C_kept hr.out hg0.out hG.out) (k : Int) (by omega) (by omega)
      cases e1
      rw [Int.toNat_natCast] at hcell
      obtain ⟨tE, pE, hE⟩ := VE_kept hV0.out hg0.out hG.out
      clear hlt
      rcases hS.out with ⟨hk0, hO⟩ | ⟨hk0, hO⟩ | ⟨hk0, hO⟩ | ⟨hk0, hO⟩
      · replace hO := Aside0.mk hO
        replace hk0 := Aside0.mk hk0
        rw [hL0.out k 8 hk1.out (by have e := hk0.out; rw [e]; exact wire_0 x y s)] at hcell
        replace hcell : wr.cell? (ad.add k) = some (.int .u8 8) := hcell
        have hc0 : wr.cell? ⟨g, 0, none⟩ = some (.int .i64 0) := (blk_cell hO.out 0).trans rfl
        have hf0 : wr.frozen? ⟨g, 0, none⟩ = false := blk_frozen hO.out 0
        have B1 : bits BinOp.and .u8 8 127 = 8 := by decide
        have B2 : IntKind.u64.wrap 8 = 8 := by decide
        have B3 : bits BinOp.or .u64 0 8 = 8 := by decide
        have B5 : bits BinOp.and .u64 8 7 = 0 := by decide
        go_wp2_with fail
        go_loop [6, 8, 9] (fun i wi sh => i = .int .i64 k ∧ wi = .int .u64 0 ∧ sh = .int .u64 0) (fun _ _ _ => 0)
        case atStart => exact ⟨rfl, rfl, rfl⟩
        case round =>
          obtain ⟨rfl, rfl, rfl⟩ := hrel
          go_wp2_with fail
          go_loopw [6, 13] (fun i sh w2 => ∃ j P s7 : Nat, Aside0 (j < vl x ∧ P = k + 1 + j ∧ s7 = 7 * j ∧ P ≤ n) ∧ i = .int .i64 (P : Int) ∧ sh = .int .u64 (s7 : Int) ∧ Aside0 (IsO w2 g (acc64 x j) 0 E0) ∧ Aside0 (w.grownBy w2 (some g))) (fun i _ _ => n - (intOf i).toNat)
          case atStart => exact ⟨0, k + 1, 0, ⟨⟨vl_pos _, rfl, rfl, by have := hk1.out; omega⟩⟩, by go_num, rfl, ⟨by rw [acc64_0]; exact hO.out.set0 0⟩, ⟨grown_set hG.out 0 _⟩⟩
          case round =>
            obtain ⟨j, P, s7, hP, rfl, rfl, hO2, hG2⟩ := hrel
            clear hcell hE hc0 hf0 h0 h1 h2 h3 qi hS
            have h10 : vl x ≤ 10 := vl_10 hx0.out.1
            have d2 : decide ((64 : Int) ≤ (s7 : Int)) = false := decide_eq_false (by have := hP.out; omega)
            have d3 : decide (64 ≤ s7) = false := decide_eq_false (by have := hP.out; omega)
            have d4 : (s7 < 64) = True := eq_true (by have := hP.out; omega)
            have d5 : (7 * j < 64) = True := eq_true (by have := hP.out; omega)
            obtain ⟨tE, pE, hE⟩ := VE_kept hV0.out hg0.out hG2.out
            have hsb : s7 ≤ 63 := by have := hP.out; omega
            have hPb : P ≤ 4294967296 := by have := hP.out; omega
            clear h10
            by_cases hPn : P < n
            case neg =>
              have g2 : decide ((n : Int) ≤ (P : Int)) = true := decide_eq_true (by omega)
              have g3 : decide (n ≤ P) = true := decide_eq_true (by omega)
              have hq := Aside0.mk hPn
              clear hPn
              go_wp2_with fail
              go_ret
              refine upost_bad (res_0 (by have := hk1.out; have := hk0.out; omega) ?_) hG2.out ⟨_, _, rfl⟩
              have a0 := hP.out
              have a1 := hq.out
              have a2 := hk0.out
              unfold p1; omega
            case pos =>
              have g2 : decide ((n : Int) ≤ (P : Int)) = false := decide_eq_false (by omega)
              have g3 : decide (n ≤ P) = false := decide_eq_false (by omega)
              have q2 : (P < n) = True := eq_true hPn
              have hP1 := Aside0.mk hPn
              have hb : rd L (P : Int) = ((by_ x j : Nat) : Int) := hL0.out P _ hPn (by have a0 := hP.out; have a2 := hk0.out; rw [a0.2.1, a2]; rw [Nat.zero_add]; exact wire_x x y s j a0.1)
              obtain ⟨ad', e1, hcell⟩ := Kd.at_int (C_kept hr.out hg0.out hG2.out) (P : Int) (by omega) (by omega)
              obtain rfl : ad = ad' := Option.some.inj e1
              rw [hb, Int.toNat_natCast] at hcell
              obtain ⟨B, hB⟩ : ∃ B : Int, B = ((by_ x j : Nat) : Int) := ⟨_, rfl⟩
              rw [← hB] at hcell
              obtain ⟨a0, ha0⟩ : ∃ a : Int, a = acc64 x j := ⟨_, rfl⟩
              have hO2' := hO2.out
              rw [← ha0] at hO2'
              have hc0 : wr.cell? ⟨g, 0, none⟩ = some (.int .i64 a0) := (blk_cell hO2' 0).trans rfl
              have hf0 : wr.frozen? ⟨g, 0, none⟩ = false := blk_frozen hO2' 0
              have hO3 := Aside0.mk hO2'
              clear hO2'
              have hstep := step64 x j
              rw [← hB, ← ha0, ← hP.out.2.2.1] at hstep
              replace hstep := Aside0.mk hstep
              have hby := by_end hP.out.1
              have hbn := by_lt x j
              have ha1 := Aside0.mk ha0
              have hB0 : 0 ≤ B := by omega
              clear e1 hb ha0
              by_cases he : j + 1 = vl x
              case pos =>
                have b8 : decide (B < 128) = true := decide_eq_true (by have := hby.2 he; omega)
                replace he := Aside0.mk he
                clear hby hB hbn hPn
                go_wp2_with fail
                go_roundw
                case rel =>
                  refine ⟨P + 1, by have := hP1.out; omega, by go_num, ⟨?_⟩, ⟨grown_set hG2.out 0 _⟩⟩
                  refine .inr <| .inl ⟨by have := hP.out; have := he.out; have := hk0.out; unfold p1; omega, ?_⟩
                  have e2 := hstep.out
                  rw [acc64_end hP.out.1 he.out] at e2
                  have := hO3.out.set0 (IntKind.i64.wrap (x : Int))
                  rw [← e2] at this
                  rw [← e2]
                  exact this
                case measure => have := hP1.out; have := hP.out; simp [intOf]; omega
              case neg =>
                have b8 : decide (B < 128) = false := decide_eq_false (by have := fun h => he (hby.1 h); omega)
                replace he := Aside0.mk he
                clear hby hB hbn hPn
                go_wp2_with fail
                go_roundw
                case rel =>
                  refine ⟨j + 1, P + 1, s7 + 7, ⟨⟨by have := hP.out; have := he.out; omega, by have := hP.out; omega, by have := hP.out; omega, by have := hP1.out; omega⟩⟩, by go_num, by go_num, ⟨?_⟩, ⟨grown_set hG2.out 0 _⟩⟩
                  have := hO3.out.set0 (acc64 x (j + 1))
                  rw [← hstep.out] at this
                  rw [← hstep.out]
                  exact this
                case measure => have := hP1.out; simp [intOf]; omega
      · replace hO := Aside0.mk hO
        replace hk0 := Aside0.mk hk0
        rw [hL0.out k 16 hk1.out (by have e := hk0.out; rw [e]; exact wire_1 x y s)] at hcell
        replace hcell : wr.cell? (ad.add k) = some (.int .u8 16) := hcell
        have hc0 : wr.cell? ⟨g, 1, none⟩ = some (.int .i32 0) := (blk_cell hO.out 1).trans rfl
        have hf0 : wr.frozen? ⟨g, 1, none⟩ = false := blk_frozen hO.out 1
        have B1 : bits BinOp.and .u8 16 127 = 16 := by decide
        have B2 : IntKind.u64.wrap 16 = 16 := by decide
        have B3 : bits BinOp.or .u64 0 16 = 16 := by decide
        have B5 : bits BinOp.and .u64 16 7 = 0 := by decide
        go_wp2_with fail
        go_loop [6, 8, 9] (fun i wi sh => i = .int .i64 k ∧ wi = .int .u64 0 ∧ sh = .int .u64 0) (fun _ _ _ => 0)
        case atStart => exact ⟨rfl, rfl, rfl⟩
        case round =>
          obtain ⟨rfl, rfl, rfl⟩ := hrel
          go_wp2_with fail
          go_loopw [6, 15] (fun i sh w2 => ∃ j P s7 : Nat, Aside0 (j < vl y ∧ P = k + 1 + j ∧ s7 = 7 * j ∧ P ≤ n) ∧ i = .int .i64 (P : Int) ∧ sh = .int .u64 (s7 : Int) ∧ Aside0 (IsO w2 g (IntKind.i64.wrap (x : Int)) (acc32 y j) E0) ∧ Aside0 (w.grownBy w2 (some g))) (fun i _ _ => n - (intOf i).toNat)
          case atStart => exact ⟨0, k + 1, 0, ⟨⟨vl_pos _, rfl, rfl, by have := hk1.out; omega⟩⟩, by go_num, rfl, ⟨by rw [acc32_0]; exact hO.out.set1 0⟩, ⟨grown_set hG.out 1 _⟩⟩
          case round =>
            obtain ⟨j, P, s7, hP, rfl, rfl, hO2, hG2⟩ := hrel
            clear hcell hE hc0 hf0 h0 h1 h2 h3 qi hS
            have h10 : vl y ≤ 10 := vl_10 hx0.out.2
            have d2 : decide ((64 : Int) ≤ (s7 : Int)) = false := decide_eq_false (by have := hP.out; omega)
            have d3 : decide (64 ≤ s7) = false := decide_eq_false (by have := hP.out; omega)
            have d4 : (s7 < 64) = True := eq_true (by have := hP.out; omega)
            have d5 : (7 * j < 64) = True := eq_true (by have := hP.out; omega)
            obtain ⟨tE, pE, hE⟩ := VE_kept hV0.out hg0.out hG2.out
            have hsb : s7 ≤ 63 := by have := hP.out; omega
            have hPb : P ≤ 4294967296 := by have := hP.out; omega
            clear h10
            by_cases hPn : P < n
            case neg =>
              have g2 : decide ((n : Int) ≤ (P : Int)) = true := decide_eq_true (by omega)
              have g3 : decide (n ≤ P) = true := decide_eq_true (by omega)
              have hq := Aside0.mk hPn
              clear hPn
              go_wp2_with fail
              go_ret
              refine upost_bad (res_1 (by have := hk1.out; have := hk0.out; omega) ?_) hG2.out ⟨_, _, rfl⟩
              have a0 := hP.out
              have a1 := hq.out
              have a2 := hk0.out
              unfold p2; omega
            case pos =>
              have g2 : decide ((n : Int) ≤ (P : Int)) = false := decide_eq_false (by omega)
              have g3 : decide (n ≤ P) = false := decide_eq_false (by omega)
              have q2 : (P < n) = True := eq_true hPn
              have hP1 := Aside0.mk hPn
              have hb : rd L (P : Int) = ((by_ y j : Nat) : Int) := hL0.out P _ hPn (by have a0 := hP.out; have a2 := hk0.out; rw [a0.2.1, a2]; exact wire_y x y s j a0.1)
              obtain ⟨ad', e1, hcell⟩ := Kd.at_int (C_kept hr.out hg0.out hG2.out) (P : Int) (by omega) (by omega)
              obtain rfl : ad = ad' := Option.some.inj e1
              rw [hb, Int.toNat_natCast] at hcell
              obtain ⟨B, hB⟩ : ∃ B : Int, B = ((by_ y j : Nat) : Int) := ⟨_, rfl⟩
              rw [← hB] at hcell
              obtain ⟨a0, ha0⟩ : ∃ a : Int, a = acc32 y j := ⟨_, rfl⟩
              have hO2' := hO2.out
              rw [← ha0] at hO2'
              have hc0 : wr.cell? ⟨g, 1, none⟩ = some (.int .i32 a0) := (blk_cell hO2' 1).trans rfl
              have hf0 : wr.frozen? ⟨g, 1, none⟩ = false := blk_frozen hO2' 1
              have hO3 := Aside0.mk hO2'
              clear hO2'
              have hstep := step32m y j
              rw [← hB, ← ha0, ← hP.out.2.2.1] at hstep
              replace hstep := Aside0.mk hstep
              have hby := by_end hP.out.1
              have hbn := by_lt y j
              have ha1 := Aside0.mk ha0
              have hB0 : 0 ≤ B := by omega
              clear e1 hb ha0
              by_cases he : j + 1 = vl y
              case pos =>
                have b8 : decide (B < 128) = true := decide_eq_true (by have := hby.2 he; omega)
                replace he := Aside0.mk he
                clear hby hB hbn hPn
                go_wp2_with fail
                go_roundw
                case rel =>
                  refine ⟨P + 1, by have := hP1.out; omega, by go_num, ⟨?_⟩, ⟨grown_set hG2.out 1 _⟩⟩
                  refine .inr <| .inr <| .inl ⟨by have := hP.out; have := he.out; have := hk0.out; unfold p2; omega, ?_⟩
                  have e2 := hstep.out
                  rw [acc32_end hP.out.1 he.out] at e2
                  have := hO3.out.set1 (IntKind.i32.wrap (y : Int))
                  rw [← e2] at this
                  rw [← e2]
                  exact this
                case measure => have := hP1.out; have := hP.out; simp [intOf]; omega
              case neg =>
                have b8 : decide (B < 128) = false := decide_eq_false (by have := fun h => he (hby.1 h); omega)
                replace he := Aside0.mk he
                clear hby hB hbn hPn
                go_wp2_with fail
                go_roundw
                case rel =>
                  refine ⟨j + 1, P + 1, s7 + 7, ⟨⟨by have := hP.out; have := he.out; omega, by have := hP.out; omega, by have := hP.out; omega, by have := hP1.out; omega⟩⟩, by go_num, by go_num, ⟨?_⟩, ⟨grown_set hG2.out 1 _⟩⟩
                  have := hO3.out.set1 (acc32 y (j + 1))
                  rw [← hstep.out] at this
                  rw [← hstep.out]
                  exact this
                case measure => have := hP1.out; simp [intOf]; omega
      · replace hO := Aside0.mk hO
        replace hk0 := Aside0.mk hk0
        rw [hL0.out k 26 hk1.out (by have e := hk0.out; rw [e]; exact wire_2 x y s)] at hcell
        replace hcell : wr.cell? (ad.add k) = some (.int .u8 26) := hcell
        have hc0 : wr.cell? ⟨g, 2, none⟩ = some (.string E0) := (blk_cell hO.out 2).trans rfl
        have hf0 : wr.frozen? ⟨g, 2, none⟩ = false := blk_frozen hO.out 2
        have B1 : bits BinOp.and .u8 26 127 = 26 := by decide
        have B2 : IntKind.u64.wrap 26 = 26 := by decide
        have B3 : bits BinOp.or .u64 0 26 = 26 := by decide
        have B5 : bits BinOp.and .u64 26 7 = 2 := by decide
        go_wp2_with fail
        go_loop [6, 8, 9] (fun i wi sh => i = .int .i64 k ∧ wi = .int .u64 0 ∧ sh = .int .u64 0) (fun _ _ _ => 0)
        case atStart => exact ⟨rfl, rfl, rfl⟩
        case round =>
          obtain ⟨rfl, rfl, rfl⟩ := hrel
          go_wp2_with fail
          go_loop [6, 17, 18] (fun i ac sh => ∃ j P s7 : Nat, Aside0 (j < vl s.length ∧ P = k + 1 + j ∧ s7 = 7 * j ∧ P ≤ n) ∧ i = .int .i64 (P : Int) ∧ ac = .int .u64 (accU s.length j) ∧ sh = .int .u64 (s7 : Int)) (fun i _ _ => n - (intOf i).toNat)
          case atStart => exact ⟨0, k + 1, 0, ⟨⟨vl_pos _, rfl, rfl, by have := hk1.out; omega⟩⟩, by go_num, by rw [accU_0], rfl⟩
          case round =>
            obtain ⟨j, P, s7, hP, rfl, rfl, rfl⟩ := hrel
            have hO2 := hO
            have hG2 := hG
            clear hcell hE hc0 hf0 h0 h1 h2 h3 qi hS
            have h10 : vl s.length ≤ 10 := vl_10 (lt_u _ hz0.out)
            have d2 : decide ((64 : Int) ≤ (s7 : Int)) = false := decide_eq_false (by have := hP.out; omega)
            have d3 : decide (64 ≤ s7) = false := decide_eq_false (by have := hP.out; omega)
            have d4 : (s7 < 64) = True := eq_true (by have := hP.out; omega)
            have d5 : (7 * j < 64) = True := eq_true (by have := hP.out; omega)
            obtain ⟨tE, pE, hE⟩ := VE_kept hV0.out hg0.out hG2.out
            have hsb : s7 ≤ 63 := by have := hP.out; omega
            have hPb : P ≤ 4294967296 := by have := hP.out; omega
            clear h10
            by_cases hPn : P < n
            case neg =>
              have g2 : decide ((n : Int) ≤ (P : Int)) = true := decide_eq_true (by omega)
              have g3 : decide (n ≤ P) = true := decide_eq_true (by omega)
              have hq := Aside0.mk hPn
              clear hPn
              go_wp2_with fail
              go_ret
              refine upost_bad (res_2 (by have := hk1.out; have := hk0.out; omega) ?_) hG2.out ⟨_, _, rfl⟩
              have a0 := hP.out
              have a1 := hq.out
              have a2 := hk0.out
              unfold p3; omega
            case pos =>
              have g2 : decide ((n : Int) ≤ (P : Int)) = false := decide_eq_false (by omega)
              have g3 : decide (n ≤ P) = false := decide_eq_false (by omega)
              have q2 : (P < n) = True := eq_true hPn
              have hP1 := Aside0.mk hPn
              have hb : rd L (P : Int) = ((by_ s.length j : Nat) : Int) := hL0.out P _ hPn (by have a0 := hP.out; have a2 := hk0.out; rw [a0.2.1, a2]; exact wire_z x y s j a0.1)
              obtain ⟨ad', e1, hcell⟩ := Kd.at_int (C_kept hr.out hg0.out hG2.out) (P : Int) (by omega) (by omega)
              obtain rfl : ad = ad' := Option.some.inj e1
              rw [hb, Int.toNat_natCast] at hcell
              obtain ⟨B, hB⟩ : ∃ B : Int, B = ((by_ s.length j : Nat) : Int) := ⟨_, rfl⟩
              rw [← hB] at hcell
              obtain ⟨a0, ha0⟩ : ∃ a : Int, a = accU s.length j := ⟨_, rfl⟩
              rw [← ha0]
              have hO3 := hO2
              have hstep := stepU s.length j
              rw [← hB, ← ha0, ← hP.out.2.2.1] at hstep
              replace hstep := Aside0.mk hstep
              have hby := by_end hP.out.1
              have hbn := by_lt s.length j
              have ha1 := Aside0.mk ha0
              have hB0 : 0 ≤ B := by omega
              clear e1 hb ha0
              by_cases he : j + 1 = vl s.length
              case pos =>
                have b8 : decide (B < 128) = true := decide_eq_true (by have := hby.2 he; omega)
                replace he := Aside0.mk he
                clear hby hB hbn hPn
                have hend : bits BinOp.or IntKind.u64 a0 (IntKind.u64.wrap (IntKind.u64.wrap (bits BinOp.and IntKind.u8 B 127) * 2 ^ s7)) = (s.length : Int) := by rw [hstep.out]; exact accU_end hP.out.1 he.out (lt_u _ hz0.out)
                have hz1 := Aside0.mk (w64n _ hz0.out)
                replace hend := Aside0.mk hend
                have hzb := hz0.out
                obtain ⟨z, hz⟩ : ∃ z : Nat, z = s.length := ⟨_, rfl⟩
                have hz1 := Aside0.mk (show wrap64 (z : Int) = (z : Int) by rw [hz]; exact hz1.out)
                have hend := Aside0.mk (show bits BinOp.or IntKind.u64 a0 (IntKind.u64.wrap (IntKind.u64.wrap (bits BinOp.and IntKind.u8 B 127) * 2 ^ s7)) = (z : Int) by rw [hz]; exact hend.out)
                rw [← hz] at hzb
                have hz2 : decide ((z : Int) < 0) = false := decide_eq_false (by omega)
                have hz3 : decide ((P : Int) + 1 + (z : Int) < 0) = false := decide_eq_false (by omega)
                have hzx := Aside0.mk hz
                clear hz
                by_cases hq : P + 1 + z ≤ n
                case neg =>
                  have u1 : decide ((n : Int) < (P : Int) + 1 + (z : Int)) = true := decide_eq_true (by omega)
                  have u2 : decide (n < P + 1 + z) = true := decide_eq_true (by omega)
                  have hq1 := Aside0.mk hq
                  clear hq
                  have hend' := hend.out
                  go_wp2_with fail
                  clear hend'
                  go_ret
                  refine upost_bad (res_2 (by have := hk1.out; have := hk0.out; omega) ?_) hG2.out ⟨_, _, rfl⟩
                  have a0 := hP.out
                  have a1 := hq1.out
                  have a2 := hk0.out
                  have a3 := hzx.out
                  have a4 := he.out
                  unfold p3; omega
                case pos =>
                  have u1 : decide ((n : Int) < (P : Int) + 1 + (z : Int)) = false := decide_eq_false (by omega)
                  have u2 : decide (n < P + 1 + z) = false := decide_eq_false (by omega)
                  have hp3 : P + 1 = p3 x y s.length := by have a0 := hP.out; have a2 := hk0.out; have a4 := he.out; unfold p3; omega
                  obtain ⟨ad', hsl, hcv⟩ := cutStr ad n c (P + 1) (P + 1 + z) (by omega) hq hnc0.out wr S.data.toList (by rw [hzx.out, hs0.out]; simp) (fun i hi => by
                    have hi' : i < s.length := by rw [hs0.out]; simpa using hi
                    have hw : (wire x y s)[P + 1 + i]? = some (S.data.toList[i].toNat) := by
                      have e1 := wire_s x y s
                      have e2 := congrArg (fun l => l[i]?) e1
                      simp only [List.getElem?_drop, ← hp3] at e2
                      rw [e2, List.getElem?_eq_getElem hi']
                      simp [hs0.out]
                    have hlt : P + 1 + i < n := by have := hzx.out; omega
                    obtain ⟨ad2, e1, hcc⟩ := Kd.at_int (C_kept hr.out hg0.out hG2.out) ((P + 1 + i : Nat) : Int) (by omega) (by omega)
                    obtain rfl : ad = ad2 := Option.some.inj e1
                    rw [Int.toNat_natCast, hL0.out _ _ hlt hw] at hcc
                    exact hcc)
                  rw [show ((P + 1 : Nat) : Int) = (P : Int) + 1 by omega, show ((P + 1 + z : Nat) : Int) = (P : Int) + 1 + (z : Int) by omega] at hsl
                  rw [show P + 1 + z - (P + 1) = z by omega] at hcv
                  simp only [show P + 1 + z - (P + 1) = z by omega] at hsl
                  have hc0 : wr.cell? ⟨g, 2, none⟩ = some (.string E0) := (blk_cell hO.out 2).trans rfl
                  have hf0 : wr.frozen? ⟨g, 2, none⟩ = false := blk_frozen hO.out 2
                  have hq1 := Aside0.mk hq
                  replace hp3 := Aside0.mk hp3
                  clear hq
                  have hend' := hend.out
                  go_wp2_with fail
                  clear hend'
                  go_roundw
                  case rel =>
                    refine ⟨P + 1 + z, hq1.out, by go_num, ⟨.inr <| .inr <| .inr ⟨by have := hp3.out; have := hzx.out; omega, ?_⟩⟩, ⟨grown_set hG2.out 2 _⟩⟩
                    have := hO.out.set2 S
                    simpa using this
                  case measure => have := hP1.out; have := hP.out; have := hk1.out; simp [intOf]; omega
              case neg =>
                have b8 : decide (B < 128) = false := decide_eq_false (by have := fun h => he (hby.1 h); omega)
                replace he := Aside0.mk he
                clear hby hB hbn hPn
                go_wp2_with fail
                go_round
                case rel =>
                  refine ⟨j + 1, P + 1, s7 + 7, ⟨⟨by have := hP.out; have := he.out; omega, by have := hP.out; omega, by have := hP.out; omega, by have := hP1.out; omega⟩⟩, by go_num, by rw [← hstep.out], by go_num⟩
                case measure => have := hP1.out; simp [intOf]; omega
      · exact absurd hk1.out (by have := hlen0.out; rw [wire_length] at this; omega)
end Go.Proofs.YtmkpkpkcoieeiabDoor.IsU
