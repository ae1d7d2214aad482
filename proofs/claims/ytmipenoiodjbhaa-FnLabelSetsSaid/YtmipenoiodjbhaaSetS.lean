/- Sets of string: each of the package's functions walked. -/
import Derived.Test.YtmipenoiodjbhaaProg
import Derived.Test.YtmipenoiodjbhaaSetGen
import Derived.Test.YtmipenoiodjbhaaSetGenB
import Derived.Test.YtmipenoiodjbhaaShelf
import Derived.Maps.AppendAt
import Derived.RegionTactic
import Derived.Deep.RegionWith
import Derived.WalkKit
namespace Go.Proofs.Ytmipenoiodjbhaa.SetS
open Go.RowKit Go.Maps Go.Proofs.YtmipenoiodjbhaaW.PrintWords Go.Proofs.Ytmipenoiodjbhaa.SetGen

theorem kk : KeyKit Try.prog 9 Value.string (fun s : ByteArray => Lit.string s.data.toList) (fun s : ByteArray => s.size ≤ maxLen) := strKit Try.underlying9
instance memB (x : ByteArray) (l : List ByteArray) : Decidable (x ∈ l) := @List.instDecidableMemOfLawfulBEq ByteArray instBEqOfDecidableEq inferInstance x l
theorem zeroE (w : World) : (zeroValue 105).run Try.prog w = .ok (.agg #[]) w := by kernel_rfl
abbrev S (w : World) (b N : Nat) (l : List ByteArray) : Prop := Su Try.prog 9 (fun s : ByteArray => Lit.string s.data.toList) (fun s : ByteArray => s.size ≤ maxLen) w b N l
abbrev G (w : World) (b r N : Nat) (l done : List ByteArray) : Prop := Rg Try.prog 9 (fun s : ByteArray => Lit.string s.data.toList) (fun s : ByteArray => s.size ≤ maxLen) w b r N l done

/-- What a slice's cells are while a set is written. -/
theorem C_set {w w1 : World} {A : Option Addr} {n b N : Nat} {xs s : List ByteArray} (h : Kd.string.C w A n xs) (hS : S w b N s) (hg : w.grownBy w1 (some b)) : Kd.string.C w1 A n xs := by
  obtain ⟨h1, h2, h3⟩ := h
  obtain ⟨_, D, ⟨es, clock, hb, _⟩, _⟩ := hS
  refine ⟨h1, h2, fun hn => ?_⟩
  obtain ⟨ad, e, hc⟩ := h3 hn
  refine ⟨ad, e, fun j p hj => ?_⟩
  obtain ⟨c, hs, hr, hcell⟩ := hc j p hj
  refine ⟨c, hs, hr, fun i u hu => hg.cell (hcell i u hu) (fun e1 => ?_)⟩
  have := hcell i u hu
  obtain rfl := Option.some.inj e1
  simp [World.cell?, hb] at this

theorem at_of {l : List ByteArray} {k : Nat} {x : ByteArray} (h : rdOf ByteArray.empty l (k : Int) = x) (hk : k < l.length) : l[k]? = some x := by
  rw [← h]
  simp [rdOf, hk]
theorem take_succ_of {l : List ByteArray} {k : Nat} {x : ByteArray} (h : l[k]? = some x) : l.take (k + 1) = l.take k ++ [x] := by
  rw [List.take_add_one, h]; rfl

theorem meas {n k : Nat} (h : k + 1 ≤ n) : n - (intOf (.int .i64 ((k + 1 : Nat) : Int))).toNat < n - (intOf (.int .i64 (k : Int))).toNat := by
  simp only [intOf, Int.toNat_natCast]; omega
theorem C_one {w : World} {g : Nat} {x : ByteArray} (h : w.cell? ⟨g, 0, none⟩ = some (Value.string x)) : Kd.string.C w (some ⟨g, 0, none⟩) 1 [x] := by
  refine ⟨rfl, by omega, fun _ => ⟨_, rfl, fun j p hj => ?_⟩⟩
  obtain rfl : j = 0 := by have := (List.getElem?_eq_some_iff.1 hj).1; simp at this; omega
  obtain rfl : x = p := by simpa using hj
  refine ⟨[Value.string x], rfl, rfl, fun i u hi => ?_⟩
  obtain rfl : i = 0 := by have := (List.getElem?_eq_some_iff.1 hi).1; simp at this; omega
  obtain rfl : Value.string x = u := by simpa using hi
  exact h
set_option maxHeartbeats 2000000 in
set_option maxRecDepth 100000 in
theorem insert_calls (b N : Nat) (s : List ByteArray) (A : Option Addr) (l : List ByteArray) (c : Nat) (w : World) (hS : S w b N s) (hr : Kd.string.C w A l.length l) (_hc : l.length ≤ c) (hN : N + l.length < maxLen) (hok : ∀ x ∈ l, (fun s : ByteArray => s.size ≤ maxLen) x) :
    Calls Try.prog 76 #[.map (some b), .slice A l.length c] w fun e w' => e = .returned (.map (some b)) ∧ S w' b (N + l.length) (s ++ l) ∧ w.grownBy w' (some b) := by
  have hlen := hr.2.1
  go_enter Try.func76, Try.ntmps76
  go_wp2
  go_loopw [9] (fun i wr => ∃ k : Nat, k ≤ l.length ∧ i = .int .i64 k ∧ S wr b (N + k) (s ++ l.take k) ∧ w.grownBy wr (some b)) (fun i _ => l.length - (intOf i).toNat)
  case atStart => exact ⟨0, Nat.zero_le _, rfl, by simpa using hS, World.grownBy.refl _ _⟩
  case round =>
    obtain ⟨k, hk, rfl, hSk, hgk⟩ := hrel
    have hrk := C_set hr hS hgk
    by_cases c3 : (k : Int) < (l.length : Int)
    · obtain ⟨x, hx⟩ : ∃ x, rdOf ByteArray.empty l (k : Int) = x := ⟨_, rfl⟩
      have hxl : l[k]? = some x := at_of hx (by omega)
      have hxm : x ∈ l := List.mem_of_getElem? hxl
      have p := Int.natCast_nonneg k
      obtain ⟨ad, e1, hcell⟩ := Kd.at_string hrk (k : Int) p c3
      rw [hx, Int.toNat_natCast] at hcell
      cases e1
      have c3b := decide_eq_true c3
      have hk2 := Aside0.mk (show k + 1 ≤ l.length by omega)
      have wk : wrap64 ((k : Int) + 1) = ((k + 1 : Nat) : Int) := by unfold wrap64; omega
      replace p := eq_true p
      replace c3 := eq_true c3
      have hSx := Aside0.mk hSk
      have hgx := Aside0.mk hgk
      clear hSk hgk hrk
      go_wp2_with (first
        | (at_mapUpdate; refine wp_put _ kk rfl _ _ _ 81 rfl 105 Try.underlying81 b (N + k) (s ++ l.take k) rfl rfl hSx.out (by omega) x (hok x hxm) rfl ?_; intro w1 hS1 hg1; have hS1 := Aside0.mk hS1; have hg1 := Aside0.mk hg1)
        | go_in)
      go_roundw
      case measure => have := hk2.out; rw [wk]; exact meas this
      case rel =>
        refine ⟨k + 1, hk2.out, by rw [wk], ?_, hgx.out.andThen hg1.out (fun j hj => .inr hj)⟩
        have := hS1.out
        rw [List.append_assoc, ← take_succ_of hxl] at this
        exact this
    · have c3b := decide_eq_false c3
      obtain rfl : k = l.length := by omega
      rw [List.take_length] at hSk
      have hSx := Aside0.mk hSk
      have hgx := Aside0.mk hgk
      clear hSk hgk hrk
      go_wp2
      go_ret
      exact ⟨rfl, hSx.out, hgx.out⟩

theorem insert_one (b N : Nat) (s : List ByteArray) (g : Nat) (x : ByteArray) (w : World) (hS : S w b N s) (hc : w.cell? ⟨g, 0, none⟩ = some (Value.string x)) (hN : N + 1 < maxLen) (hok : (fun s : ByteArray => s.size ≤ maxLen) x) :
    Calls Try.prog 76 #[.map (some b), .slice (some ⟨g, 0, none⟩) 1 1] w fun e w' => e = .returned (.map (some b)) ∧ S w' b (N + 1) (s ++ [x]) ∧ w.grownBy w' (some b) :=
  insert_calls b N s (some ⟨g, 0, none⟩) [x] 1 w hS (C_one hc) (Nat.le_refl _) hN (by intro y hy; rw [List.mem_singleton.1 hy]; exact hok)

set_option maxHeartbeats 2000000 in
set_option maxRecDepth 100000 in
theorem new_calls (A : Option Addr) (l : List ByteArray) (c : Nat) (w : World) (hr : Kd.string.C w A l.length l) (hc : l.length ≤ c) (hN : l.length < maxLen) (hok : ∀ x ∈ l, (fun s : ByteArray => s.size ≤ maxLen) x) :
    Calls Try.prog 70 #[.slice A l.length c] w fun e w' => e = .returned (.map (some w.heap.size)) ∧ S w' w.heap.size l.length l ∧ Below w.heap.size w w' := by
  have hlen := hr.2.1
  go_enter Try.func70, Try.ntmps70
  go_wp2_with (first
    | (refine wp_makeMap (α := ByteArray) (k := 9) (lit := (fun s : ByteArray => Lit.string s.data.toList)) (OK := (fun s : ByteArray => s.size ≤ maxLen)) _ rfl 81 _ rfl 105 Try.underlying81 _ rfl ?_; intro w1 hS1 hg1 hz1; have hS1 := Aside0.mk (show S w1 w.heap.size 0 [] from hS1); have hg1 := Aside0.mk hg1; have hz1 := Aside0.mk hz1)
    | (go_at_call 76; refine (insert_calls w.heap.size 0 [] A l c w1 hS1.out (Kd.C_below hr (Below.grown (Below.refl _ _) hg1.out (Nat.le_refl _) (fun j hj => by cases hj))) hc (by omega) hok).mono ?_; rintro e w2 ⟨rfl, hS2, hg2⟩; have hS2 := Aside0.mk hS2; have hg2 := Aside0.mk hg2)
    | go_in)

  go_ret
  refine ⟨rfl, ?_, Below.grown (Below.grown (Below.refl _ _) hg1.out (Nat.le_refl _) (fun j hj => by cases hj)) hg2.out (Nat.le_of_lt hz1.out) (fun j hj => by cases hj; exact Nat.le_refl _)⟩
  have := hS2.out
  rw [Nat.zero_add, List.nil_append] at this
  exact this

set_option maxHeartbeats 2000000 in
set_option maxRecDepth 100000 in
theorem has_calls (b N : Nat) (l : List ByteArray) (x : ByteArray) (r : Bool) (w : World) (hS : S w b N l) (hx : (fun s : ByteArray => s.size ≤ maxLen) x) (hr : decide (x ∈ l) = r) :
    Calls Try.prog 82 #[.map (some b), Value.string x] w fun e w' => e = .returned (.bool r) ∧ w' = w.alloc (.cells #[] 105) := by
  subst hr
  have hSx := Aside0.mk hS
  clear hS
  obtain ⟨r, hr⟩ : ∃ r, r = decide (x ∈ l) := ⟨_, rfl⟩
  rw [← hr]
  have hr := Aside0.mk hr
  go_enter Try.func82, Try.ntmps82
  go_wp2_with (first
    | (at_lookup; refine wp_has _ kk rfl _ _ 81 rfl 105 Try.underlying81 (zeroE _) b N l rfl hSx.out x hx rfl ?_)
    | go_in)
  go_ret
  exact ⟨by rw [hr.out]; rfl, rfl⟩

theorem new_none (w : World) : Calls Try.prog 70 #[.slice none 0 0] w fun e w' => e = .returned (.map (some w.heap.size)) ∧ S w' w.heap.size 0 [] ∧ Below w.heap.size w w' :=
  new_calls none [] 0 w ⟨rfl, by simp, fun h => absurd h (Nat.lt_irrefl 0)⟩ (Nat.le_refl _) (by decide) (fun x hx => by cases hx)
theorem S_below {w w' : World} {b N : Nat} {l : List ByteArray} (h : S w b N l) (hb : Below w.heap.size w w') : S w' b N l := h.kept (grown_of_below hb none) (by simp)

set_option maxHeartbeats 600000 in
set_option maxRecDepth 100000 in
theorem clone_calls (b N : Nat) (l : List ByteArray) (w : World) (hS : S w b N l) (hl : l.length ≤ 8589934592) :
    Calls Try.prog 71 #[.map (some b)] w fun e w' => e = .returned (.map (some w.heap.size)) ∧ S w' w.heap.size l.length l ∧ Below w.heap.size w w' := by
  have hSx := Aside0.mk hS
  have hlx := Aside0.mk hl
  have hbb := Aside0.mk hS.lt
  clear hS hl
  go_enter Try.func71, Try.ntmps71
  go_wp2_with (first
    | (at_len; refine wp_len _ kk rfl _ 81 rfl 105 Try.underlying81 b N l rfl hSx.out ?_; intro xs hxn hxm hxb; have hxn := Aside0.mk hxn; have hxm := Aside0.mk hxm; have hxb := Aside0.mk hxb)
    | (refine wp_makeMap (α := ByteArray) (k := 9) (lit := (fun s : ByteArray => Lit.string s.data.toList)) (OK := (fun s : ByteArray => s.size ≤ maxLen)) _ rfl 81 _ rfl 105 Try.underlying81 _ rfl ?_; intro w1 hSw1 hgw1 hzw1; have hSw1 := Aside0.mk hSw1; have hgw1 := Aside0.mk hgw1; have hzw1 := Aside0.mk hzw1)
    | (at_range; refine wp_range _ kk rfl _ 81 rfl 105 Try.underlying81 b N l rfl (hSx.out.kept hgw1.out (by simp)) ?_; intro w2 hGw2 hgw2 hzw2; have hGw2 := Aside0.mk hGw2; have hgw2 := Aside0.mk hgw2; have hzw2 := Aside0.mk hzw2)
    | go_in)
  go_frame
  go_loopw [4] (fun _ wr => ∃ done, G wr b w1.heap.size N l done ∧ S wr w.heap.size done.length done ∧ Below w.heap.size w wr) (fun _ wr => wr.rangeLeft b w1.heap.size)
  case atStart => exact ⟨[], hGw2.out, hSw1.out.kept hgw2.out (by simp), Below.grown (Below.grown (Below.refl _ _) hgw1.out (Nat.le_refl _) (fun j hj => by cases hj)) hgw2.out (Nat.le_of_lt hzw1.out) (fun j hj => by cases hj)⟩
  case round =>
    obtain ⟨done, hG, hSd, hB⟩ := hrel
    have hG := Aside0.mk hG
    have hSd := Aside0.mk hSd
    have hB := Aside0.mk hB
    go_wp2_with (first
      | (at_next; refine wp_next _ kk rfl _ rfl b w1.heap.size N l done rfl hG.out ?_ ?_)
      | go_in)
    · intro hall
      have hall := Aside0.mk hall
      go_wp2
      go_ret
      obtain ⟨n, D, left, cnt, _, _, _, _, hn, hsub, _⟩ := hG.out
      exact ⟨rfl, hSd.out.congr (nodup_length hn hsub) (fun x => ⟨hsub x, hall.out x⟩), hB.out⟩
    · intro x w3 hok hxl hxd hG3 hlt hg3 hs3 hen
      clear hs3
      have hlen := hG3.length
      rw [List.length_append, List.length_singleton] at hlen
      have hlen := (show done.length + 1 < maxLen by have := hlx.out; unfold maxLen; omega)
      have hSi := Aside0.mk (Su.kept (Su.kept hSd.out hg3 (by have := hzw1.out; simp; omega)) (World.grownBy_alloc w3 (.cells #[Value.string x] 9) none) (by simp))
      have hci := Aside0.mk (cell_new w3 (Value.string x) 9)
      have hG3 := Aside0.mk hG3
      have hlt := Aside0.mk hlt
      have hg3 := Aside0.mk hg3
      clear hxl hxd
      go_wp2_with (first
        | (go_at_call 76; refine (insert_one w.heap.size done.length done _ x _ hSi.out hci.out (by omega) hok).mono ?_; rintro e w4 ⟨rfl, hSw4, hgw4⟩; have hSw4 := Aside0.mk hSw4; have hgw4 := Aside0.mk hgw4)
        | go_in)
      obtain ⟨r1, r2, r3⟩ := add_round hG3.out hlt.out hg3.out (alloc_then hgw4.out) hbb.out (Nat.le_refl _) hzw1.out hB.out
      go_roundw
      case rel => exact ⟨done ++ [x], r1, by rw [List.length_append]; exact hSw4.out, r3⟩
      case measure => exact r2

set_option maxHeartbeats 600000 in
set_option maxRecDepth 100000 in
theorem union_calls (b1 N1 : Nat) (l1 : List ByteArray) (b2 N2 : Nat) (l2 : List ByteArray) (w : World) (hS1 : S w b1 N1 l1) (hS2 : S w b2 N2 l2) (hl1 : l1.length ≤ 4294967296) (hl2 : l2.length ≤ 4294967296) :
    Calls Try.prog 72 #[.map (some b1), .map (some b2)] w fun e w' => e = .returned (.map (some w.heap.size)) ∧ S w' w.heap.size (l1.length + l2.length) (l1 ++ l2) ∧ Below w.heap.size w w' := by
  have hSx1 := Aside0.mk hS1
  have hSx2 := Aside0.mk hS2
  have hlx1 := Aside0.mk hl1
  have hlx2 := Aside0.mk hl2
  have hbb := Aside0.mk hS2.lt
  clear hS1 hS2 hl1 hl2
  go_enter Try.func72, Try.ntmps72
  go_wp2_with (first
    | (go_at_call 71; refine (clone_calls b1 N1 l1 _ hSx1.out (by have := hlx1.out; omega)).mono ?_; rintro e w1 ⟨rfl, hSw1, hB1⟩; have hzw1 := Aside0.mk (Su.lt hSw1); have hSw1 := Aside0.mk hSw1; have hB1 := Aside0.mk hB1)
    | (at_range; refine wp_range _ kk rfl _ 81 rfl 105 Try.underlying81 b2 N2 l2 rfl (S_below hSx2.out hB1.out) ?_; intro w2 hGw2 hgw2 hzw2; have hGw2 := Aside0.mk hGw2; have hgw2 := Aside0.mk hgw2; have hzw2 := Aside0.mk hzw2)
    | go_in)
  go_frame
  go_loopw [6] (fun _ wr => ∃ done, G wr b2 w1.heap.size N2 l2 done ∧ S wr w.heap.size (l1.length + done.length) (l1 ++ done) ∧ Below w.heap.size w wr) (fun _ wr => wr.rangeLeft b2 w1.heap.size)
  case atStart => exact ⟨[], hGw2.out, by rw [List.append_nil]; exact hSw1.out.kept hgw2.out (by simp), Below.grown hB1.out hgw2.out (Nat.le_of_lt hzw1.out) (fun j hj => by cases hj)⟩
  case round =>
    obtain ⟨done, hG, hSd, hB⟩ := hrel
    have hG := Aside0.mk hG
    have hSd := Aside0.mk hSd
    have hB := Aside0.mk hB
    go_wp2_with (first
      | (at_next; refine wp_next _ kk rfl _ rfl b2 w1.heap.size N2 l2 done rfl hG.out ?_ ?_)
      | go_in)
    · intro hall
      have hall := Aside0.mk hall
      go_wp2
      go_ret
      obtain ⟨n, D, left, cnt, _, _, _, _, hn, hsub, _⟩ := hG.out
      exact ⟨rfl, hSd.out.congr (Nat.add_le_add_left (nodup_length hn hsub) _) (fun x => by rw [List.mem_append, List.mem_append]; exact or_congr Iff.rfl ⟨hsub x, hall.out x⟩), hB.out⟩
    · intro x w3 hok hxl hxd hG3 hlt hg3 hs3 hen
      clear hs3
      have hlen := hG3.length
      rw [List.length_append, List.length_singleton] at hlen
      have hlen := (show l1.length + done.length + 1 < maxLen by have := hlx1.out; have := hlx2.out; unfold maxLen; omega)
      have hSi := Aside0.mk (Su.kept (Su.kept hSd.out hg3 (by have := hzw1.out; simp; omega)) (World.grownBy_alloc w3 (.cells #[Value.string x] 9) none) (by simp))
      have hci := Aside0.mk (cell_new w3 (Value.string x) 9)
      have hG3 := Aside0.mk hG3
      have hlt := Aside0.mk hlt
      have hg3 := Aside0.mk hg3
      clear hxl hxd
      go_wp2_with (first
        | (go_at_call 76; refine (insert_one w.heap.size (l1.length + done.length) (l1 ++ done) _ x _ hSi.out hci.out (by omega) hok).mono ?_; rintro e w4 ⟨rfl, hSw4, hgw4⟩; have hSw4 := Aside0.mk hSw4; have hgw4 := Aside0.mk hgw4)
        | go_in)
      obtain ⟨r1, r2, r3⟩ := add_round hG3.out hlt.out hg3.out (alloc_then hgw4.out) hbb.out (Nat.le_refl _) hzw1.out hB.out
      go_roundw
      case rel => exact ⟨done ++ [x], r1, by rw [List.length_append, ← List.append_assoc]; exact hSw4.out, r3⟩
      case measure => exact r2

set_option maxHeartbeats 600000 in
set_option maxRecDepth 100000 in
theorem diff_calls (b1 N1 : Nat) (l1 : List ByteArray) (b2 N2 : Nat) (l2 : List ByteArray) (w : World) (hS1 : S w b1 N1 l1) (hS2 : S w b2 N2 l2) (hl1 : l1.length ≤ 4294967296) :
    Calls Try.prog 74 #[.map (some b1), .map (some b2)] w fun e w' => e = .returned (.map (some w.heap.size)) ∧ S w' w.heap.size l1.length (l1.filter fun z => decide (z ∈ l2) = false) ∧ Below w.heap.size w w' := by
  have hSx1 := Aside0.mk hS1
  have hSx2 := Aside0.mk hS2
  have hlx1 := Aside0.mk hl1
  have hbb := Aside0.mk hS1.lt
  clear hS1 hS2 hl1
  go_enter Try.func74, Try.ntmps74
  go_wp2_with (first
    | (go_at_call 70; refine (new_none _).mono ?_; rintro e w1 ⟨rfl, hSw1, hB1⟩; have hzw1 := Aside0.mk (Su.lt hSw1); have hSw1 := Aside0.mk hSw1; have hB1 := Aside0.mk hB1)
    | (at_range; refine wp_range _ kk rfl _ 81 rfl 105 Try.underlying81 b1 N1 l1 rfl (S_below hSx1.out hB1.out) ?_; intro w2 hGw2 hgw2 hzw2; have hGw2 := Aside0.mk hGw2; have hgw2 := Aside0.mk hgw2; have hzw2 := Aside0.mk hzw2)
    | go_in)
  go_frame
  go_loopw [6] (fun _ wr => ∃ done, G wr b1 w1.heap.size N1 l1 done ∧ S wr w.heap.size (done.filter fun z => decide (z ∈ l2) = false).length (done.filter fun z => decide (z ∈ l2) = false) ∧ Below w.heap.size w wr) (fun _ wr => wr.rangeLeft b1 w1.heap.size)
  case atStart => exact ⟨[], hGw2.out, hSw1.out.kept hgw2.out (by simp), Below.grown hB1.out hgw2.out (Nat.le_of_lt hzw1.out) (fun j hj => by cases hj)⟩
  case round =>
    obtain ⟨done, hG, hSd, hB⟩ := hrel
    have hG := Aside0.mk hG
    have hSd := Aside0.mk hSd
    have hB := Aside0.mk hB
    go_wp2_with (first
      | (at_next; refine wp_next _ kk rfl _ rfl b1 w1.heap.size N1 l1 done rfl hG.out ?_ ?_)
      | go_in)
    · intro hall
      have hall := Aside0.mk hall
      go_wp2
      go_ret
      obtain ⟨n, D, left, cnt, _, _, _, _, hn, hsub, _⟩ := hG.out
      refine ⟨rfl, hSd.out.congr (Nat.le_trans (List.length_filter_le _ _) (nodup_length hn hsub)) (fun x => ?_), hB.out⟩
      rw [List.mem_filter, List.mem_filter]
      exact and_congr ⟨hsub x, hall.out x⟩ Iff.rfl
    · intro x w3 hok hxl hxd hG3 hlt hg3 hs3 hen
      clear hs3
      have hlen := hG3.length
      rw [List.length_append, List.length_singleton] at hlen
      have hlen2 := List.length_filter_le (fun z => decide (decide (z ∈ l2) = false)) done
      have hlen := (show (done.filter fun z => decide (z ∈ l2) = false).length + 1 < maxLen by have := hlx1.out; unfold maxLen; omega)
      clear hlen2
      have hBx := Aside0.mk (Below.grown hB.out hg3 hB.out.size (fun j hj => by cases hj; have := hzw1.out; omega))
      have hS2i := Aside0.mk (S_below hSx2.out hBx.out)
      have hSi0 := (Su.kept (Su.kept hSd.out hg3 (by have := hzw1.out; simp; omega)) (World.grownBy_alloc w3 (.cells #[] 105) none) (by simp))
      have hSi := Aside0.mk (Su.kept hSi0 (World.grownBy_alloc (w3.alloc (.cells #[] 105)) (.cells #[Value.string x] 9) none) (by simp))
      have hSi0 := Aside0.mk hSi0
      have hci := Aside0.mk (cell_new2 w3 (.cells #[] 105) (Value.string x) 9)
      have hG3 := Aside0.mk hG3
      have hlt := Aside0.mk hlt
      have hg3 := Aside0.mk hg3
      clear hxl hxd hBx
      rcases hxr : decide (x ∈ l2) with _ | _
      · have hxr := Aside0.mk hxr
        go_wp2_with (first
          | (go_at_call 82; refine (has_calls b2 N2 l2 x false _ hS2i.out hok hxr.out).mono ?_; rintro e w' ⟨rfl, rfl⟩)
          | (go_at_call 76; refine (insert_one w.heap.size (done.filter fun z => decide (z ∈ l2) = false).length (done.filter fun z => decide (z ∈ l2) = false) _ x _ hSi.out hci.out (by omega) hok).mono ?_; rintro e w4 ⟨rfl, hSw4, hgw4⟩; have hSw4 := Aside0.mk hSw4; have hgw4 := Aside0.mk hgw4)
          | go_in)
        obtain ⟨r1, r2, r3⟩ := add_round hG3.out hlt.out hg3.out (alloc_then (alloc_then hgw4.out)) hbb.out (Nat.le_refl _) hzw1.out hB.out
        have hf : ((done ++ [x]).filter fun z => decide (z ∈ l2) = false) = (done.filter fun z => decide (z ∈ l2) = false) ++ [x] := by rw [List.filter_append]; simp [hxr.out]
        go_roundw
        case rel => exact ⟨done ++ [x], r1, by rw [hf, List.length_append]; exact hSw4.out, r3⟩
        case measure => exact r2
      · have hxr := Aside0.mk hxr
        go_wp2_with (first
          | (go_at_call 82; refine (has_calls b2 N2 l2 x true _ hS2i.out hok hxr.out).mono ?_; rintro e w' ⟨rfl, rfl⟩)
          | go_in)
        obtain ⟨r1, r2, r3⟩ := add_round (bn := w.heap.size) hG3.out hlt.out hg3.out (World.grownBy_alloc _ _ _) hbb.out (Nat.le_refl _) hzw1.out hB.out
        have hf : ((done ++ [x]).filter fun z => decide (z ∈ l2) = false) = (done.filter fun z => decide (z ∈ l2) = false) := by rw [List.filter_append]; simp [hxr.out]
        go_roundw
        case rel => exact ⟨done ++ [x], r1, by rw [hf]; exact hSi0.out, r3⟩
        case measure => exact r2

def LenPost (l : List ByteArray) (N : Nat) (w : World) (e : Ending) (w' : World) : Prop := ∃ xs : List ByteArray, xs.Nodup ∧ (∀ x, x ∈ xs ↔ x ∈ l) ∧ xs.length ≤ N ∧ e = .returned (.int .i64 xs.length) ∧ w = w'
set_option maxHeartbeats 600000 in
set_option maxRecDepth 100000 in
theorem len_calls (b N : Nat) (l : List ByteArray) (w : World) (hS : S w b N l) : Calls Try.prog 89 #[.map (some b)] w (LenPost l N w) := by
  have hSx := Aside0.mk hS
  clear hS
  go_enter Try.func89, Try.ntmps89
  go_wp2_with (first
    | (at_len; refine wp_len _ kk rfl _ 81 rfl 105 Try.underlying81 b N l rfl hSx.out ?_; intro xs hxn hxm hxb; have hxn := Aside0.mk hxn; have hxm := Aside0.mk hxm; have hxb := Aside0.mk hxb)
    | go_in)
  go_ret
  exact ⟨xs, hxn.out, hxm.out, hxb.out, rfl, rfl⟩

set_option maxHeartbeats 600000 in
set_option maxRecDepth 100000 in
theorem inter_calls (b1 N1 : Nat) (l1 : List ByteArray) (b2 N2 : Nat) (l2 : List ByteArray) (w : World) (hS1 : S w b1 N1 l1) (hS2 : S w b2 N2 l2) (hl1 : l1.length ≤ 4294967296) (hl2 : l2.length ≤ 4294967296) :
    Calls Try.prog 73 #[.map (some b1), .map (some b2)] w fun e w' => e = .returned (.map (some w.heap.size)) ∧ S w' w.heap.size (l1.length + l2.length) (l1.filter fun z => decide (z ∈ l2) = true) ∧ Below w.heap.size w w' := by
  have hSx1 := Aside0.mk hS1
  have hSx2 := Aside0.mk hS2
  have hlx1 := Aside0.mk hl1
  have hlx2 := Aside0.mk hl2
  have hbb1 := Aside0.mk hS1.lt
  have hbb2 := Aside0.mk hS2.lt
  clear hS1 hS2 hl1 hl2
  go_enter Try.func73, Try.ntmps73
  go_wp2_with (first
    | (go_at_call 70; refine (new_none _).mono ?_; rintro e w1 ⟨rfl, hSw1, hB1⟩; have hzw1 := Aside0.mk (Su.lt hSw1); have hSw1 := Aside0.mk hSw1; have hB1 := Aside0.mk hB1)
    | (go_at_call 89; refine (len_calls b1 N1 l1 _ (S_below hSx1.out hB1.out)).mono ?_; rintro e w' ⟨xs1, hnxs1, hmxs1, hbxs1, rfl, rfl⟩; clear hnxs1 hmxs1 hbxs1)
    | (go_at_call 89; refine (len_calls b2 N2 l2 _ (S_below hSx2.out hB1.out)).mono ?_; rintro e w' ⟨xs2, hnxs2, hmxs2, hbxs2, rfl, rfl⟩; clear hnxs2 hmxs2 hbxs2)
    | (at_range; refine wp_range _ kk rfl _ 81 rfl 105 Try.underlying81 b1 N1 l1 rfl (S_below hSx1.out hB1.out) ?_; intro w2 hGw2 hgw2 hzw2; have hGw2 := Aside0.mk hGw2; have hgw2 := Aside0.mk hgw2; have hzw2 := Aside0.mk hzw2)
    | (at_range; refine wp_range _ kk rfl _ 81 rfl 105 Try.underlying81 b2 N2 l2 rfl (S_below hSx2.out hB1.out) ?_; intro w2 hGw2 hgw2 hzw2; have hGw2 := Aside0.mk hGw2; have hgw2 := Aside0.mk hgw2; have hzw2 := Aside0.mk hzw2)
    | go_in)
  · rename xs1.length < xs2.length => hcmp
    clear hcmp
    go_frame
    go_loopw [8] (fun _ wr => ∃ done, G wr b1 w1.heap.size N1 l1 done ∧ S wr w.heap.size (done.filter fun z => decide (z ∈ l2) = true).length (done.filter fun z => decide (z ∈ l2) = true) ∧ Below w.heap.size w wr) (fun _ wr => wr.rangeLeft b1 w1.heap.size)
    case atStart => exact ⟨[], hGw2.out, hSw1.out.kept hgw2.out (by simp), Below.grown hB1.out hgw2.out (Nat.le_of_lt hzw1.out) (fun j hj => by cases hj)⟩
    case round =>
      obtain ⟨done, hG, hSd, hB⟩ := hrel
      have hG := Aside0.mk hG
      have hSd := Aside0.mk hSd
      have hB := Aside0.mk hB
      go_wp2_with (first
        | (at_next; refine wp_next _ kk rfl _ rfl b1 w1.heap.size N1 l1 done rfl hG.out ?_ ?_)
        | go_in)
      · intro hall
        have hall := Aside0.mk hall
        go_wp2
        go_ret
        obtain ⟨n, D, left, cnt, _, _, _, _, hn, hsub, _⟩ := hG.out
        refine ⟨rfl, hSd.out.congr (Nat.le_trans (List.length_filter_le _ _) (Nat.le_trans (nodup_length hn hsub) (by omega))) (fun x => ?_), hB.out⟩
        rw [List.mem_filter, List.mem_filter]
        have := and_congr (show x ∈ done ↔ x ∈ l1 from ⟨hsub x, hall.out x⟩) (Iff.refl (x ∈ l2))
        simpa [and_comm] using this
      · intro x w3 hok hxl hxd hG3 hlt hg3 hs3 hen
        clear hs3
        have hlen := hG3.length
        rw [List.length_append, List.length_singleton] at hlen
        have hlen2 := List.length_filter_le (fun z => decide (decide (z ∈ l2) = true)) done
        have hlen := (show (done.filter fun z => decide (z ∈ l2) = true).length + 1 < maxLen by have := hlx1.out; unfold maxLen; omega)
        clear hlen2
        have hBx := Aside0.mk (Below.grown hB.out hg3 hB.out.size (fun j hj => by cases hj; have := hzw1.out; omega))
        have hS2i := Aside0.mk (S_below hSx2.out hBx.out)
        have hSi0 := (Su.kept (Su.kept hSd.out hg3 (by have := hzw1.out; simp; omega)) (World.grownBy_alloc w3 (.cells #[] 105) none) (by simp))
        have hSi := Aside0.mk (Su.kept hSi0 (World.grownBy_alloc (w3.alloc (.cells #[] 105)) (.cells #[Value.string x] 9) none) (by simp))
        have hSi0 := Aside0.mk hSi0
        have hci := Aside0.mk (cell_new2 w3 (.cells #[] 105) (Value.string x) 9)
        have hG3 := Aside0.mk hG3
        have hlt := Aside0.mk hlt
        have hg3 := Aside0.mk hg3
        clear hxl hxd hBx
        rcases hxr : decide (x ∈ l2) with _ | _
        · have hxr := Aside0.mk hxr
          go_wp2_with (first
            | (go_at_call 82; refine (has_calls b2 N2 l2 x false _ hS2i.out hok hxr.out).mono ?_; rintro e w' ⟨rfl, rfl⟩)
            | go_in)
          obtain ⟨r1, r2, r3⟩ := add_round (bn := w.heap.size) hG3.out hlt.out hg3.out (World.grownBy_alloc _ _ _) hbb1.out (Nat.le_refl _) hzw1.out hB.out
          have hf : ((done ++ [x]).filter fun z => decide (z ∈ l2) = true) = (done.filter fun z => decide (z ∈ l2) = true) := by rw [List.filter_append]; simp [hxr.out]
          go_roundw
          case rel => exact ⟨done ++ [x], r1, by rw [hf]; exact hSi0.out, r3⟩
          case measure => exact r2
        · have hxr := Aside0.mk hxr
          go_wp2_with (first
            | (go_at_call 82; refine (has_calls b2 N2 l2 x true _ hS2i.out hok hxr.out).mono ?_; rintro e w' ⟨rfl, rfl⟩)
            | (go_at_call 76; refine (insert_one w.heap.size (done.filter fun z => decide (z ∈ l2) = true).length (done.filter fun z => decide (z ∈ l2) = true) _ x _ hSi.out hci.out (by omega) hok).mono ?_; rintro e w4 ⟨rfl, hSw4, hgw4⟩; have hSw4 := Aside0.mk hSw4; have hgw4 := Aside0.mk hgw4)
            | go_in)
          obtain ⟨r1, r2, r3⟩ := add_round hG3.out hlt.out hg3.out (alloc_then (alloc_then hgw4.out)) hbb1.out (Nat.le_refl _) hzw1.out hB.out
          have hf : ((done ++ [x]).filter fun z => decide (z ∈ l2) = true) = (done.filter fun z => decide (z ∈ l2) = true) ++ [x] := by rw [List.filter_append]; simp [hxr.out]
          go_roundw
          case rel => exact ⟨done ++ [x], r1, by rw [hf, List.length_append]; exact hSw4.out, r3⟩
          case measure => exact r2
  · first | (rename xs2.length ≤ xs1.length => hcmp; clear hcmp) | (rename ¬ xs1.length < xs2.length => hcmp; clear hcmp) | skip
    go_frame
    go_loopw [8] (fun _ wr => ∃ done, G wr b2 w1.heap.size N2 l2 done ∧ S wr w.heap.size (done.filter fun z => decide (z ∈ l1) = true).length (done.filter fun z => decide (z ∈ l1) = true) ∧ Below w.heap.size w wr) (fun _ wr => wr.rangeLeft b2 w1.heap.size)
    case atStart => exact ⟨[], hGw2.out, hSw1.out.kept hgw2.out (by simp), Below.grown hB1.out hgw2.out (Nat.le_of_lt hzw1.out) (fun j hj => by cases hj)⟩
    case round =>
      obtain ⟨done, hG, hSd, hB⟩ := hrel
      have hG := Aside0.mk hG
      have hSd := Aside0.mk hSd
      have hB := Aside0.mk hB
      go_wp2_with (first
        | (at_next; refine wp_next _ kk rfl _ rfl b2 w1.heap.size N2 l2 done rfl hG.out ?_ ?_)
        | go_in)
      · intro hall
        have hall := Aside0.mk hall
        go_wp2
        go_ret
        obtain ⟨n, D, left, cnt, _, _, _, _, hn, hsub, _⟩ := hG.out
        refine ⟨rfl, hSd.out.congr (Nat.le_trans (List.length_filter_le _ _) (Nat.le_trans (nodup_length hn hsub) (by omega))) (fun x => ?_), hB.out⟩
        rw [List.mem_filter, List.mem_filter]
        have := and_congr (show x ∈ done ↔ x ∈ l2 from ⟨hsub x, hall.out x⟩) (Iff.refl (x ∈ l1))
        simpa [and_comm] using this
      · intro x w3 hok hxl hxd hG3 hlt hg3 hs3 hen
        clear hs3
        have hlen := hG3.length
        rw [List.length_append, List.length_singleton] at hlen
        have hlen2 := List.length_filter_le (fun z => decide (decide (z ∈ l1) = true)) done
        have hlen := (show (done.filter fun z => decide (z ∈ l1) = true).length + 1 < maxLen by have := hlx2.out; unfold maxLen; omega)
        clear hlen2
        have hBx := Aside0.mk (Below.grown hB.out hg3 hB.out.size (fun j hj => by cases hj; have := hzw1.out; omega))
        have hS2i := Aside0.mk (S_below hSx1.out hBx.out)
        have hSi0 := (Su.kept (Su.kept hSd.out hg3 (by have := hzw1.out; simp; omega)) (World.grownBy_alloc w3 (.cells #[] 105) none) (by simp))
        have hSi := Aside0.mk (Su.kept hSi0 (World.grownBy_alloc (w3.alloc (.cells #[] 105)) (.cells #[Value.string x] 9) none) (by simp))
        have hSi0 := Aside0.mk hSi0
        have hci := Aside0.mk (cell_new2 w3 (.cells #[] 105) (Value.string x) 9)
        have hG3 := Aside0.mk hG3
        have hlt := Aside0.mk hlt
        have hg3 := Aside0.mk hg3
        clear hxl hxd hBx
        rcases hxr : decide (x ∈ l1) with _ | _
        · have hxr := Aside0.mk hxr
          go_wp2_with (first
            | (go_at_call 82; refine (has_calls b1 N1 l1 x false _ hS2i.out hok hxr.out).mono ?_; rintro e w' ⟨rfl, rfl⟩)
            | go_in)
          obtain ⟨r1, r2, r3⟩ := add_round (bn := w.heap.size) hG3.out hlt.out hg3.out (World.grownBy_alloc _ _ _) hbb2.out (Nat.le_refl _) hzw1.out hB.out
          have hf : ((done ++ [x]).filter fun z => decide (z ∈ l1) = true) = (done.filter fun z => decide (z ∈ l1) = true) := by rw [List.filter_append]; simp [hxr.out]
          go_roundw
          case rel => exact ⟨done ++ [x], r1, by rw [hf]; exact hSi0.out, r3⟩
          case measure => exact r2
        · have hxr := Aside0.mk hxr
          go_wp2_with (first
            | (go_at_call 82; refine (has_calls b1 N1 l1 x true _ hS2i.out hok hxr.out).mono ?_; rintro e w' ⟨rfl, rfl⟩)
            | (go_at_call 76; refine (insert_one w.heap.size (done.filter fun z => decide (z ∈ l1) = true).length (done.filter fun z => decide (z ∈ l1) = true) _ x _ hSi.out hci.out (by omega) hok).mono ?_; rintro e w4 ⟨rfl, hSw4, hgw4⟩; have hSw4 := Aside0.mk hSw4; have hgw4 := Aside0.mk hgw4)
            | go_in)
          obtain ⟨r1, r2, r3⟩ := add_round hG3.out hlt.out hg3.out (alloc_then (alloc_then hgw4.out)) hbb2.out (Nat.le_refl _) hzw1.out hB.out
          have hf : ((done ++ [x]).filter fun z => decide (z ∈ l1) = true) = (done.filter fun z => decide (z ∈ l1) = true) ++ [x] := by rw [List.filter_append]; simp [hxr.out]
          go_roundw
          case rel => exact ⟨done ++ [x], r1, by rw [hf, List.length_append]; exact hSw4.out, r3⟩
          case measure => exact r2

set_option maxHeartbeats 600000 in
set_option maxRecDepth 100000 in
theorem sym_calls (b1 N1 : Nat) (l1 : List ByteArray) (b2 N2 : Nat) (l2 : List ByteArray) (w : World) (hS1 : S w b1 N1 l1) (hS2 : S w b2 N2 l2) (hl1 : l1.length ≤ 4294967296) (hl2 : l2.length ≤ 4294967296) :
    Calls Try.prog 75 #[.map (some b1), .map (some b2)] w fun e w' => ∃ b, e = .returned (.map (some b)) ∧ S w' b (l1.length + l2.length) ((l1.filter fun z => decide (z ∈ l2) = false) ++ (l2.filter fun z => decide (z ∈ l1) = false)) ∧ Below w.heap.size w w' ∧ w.heap.size ≤ b := by
  have hSx1 := Aside0.mk hS1
  have hSx2 := Aside0.mk hS2
  have hlx1 := Aside0.mk hl1
  have hlx2 := Aside0.mk hl2
  have hbb1 := Aside0.mk hS1.lt
  have hbb2 := Aside0.mk hS2.lt
  clear hS1 hS2 hl1 hl2
  have hf1 := Aside0.mk (Nat.le_trans (List.length_filter_le (fun z => decide (decide (z ∈ l2) = false)) l1) hlx1.out)
  have hf2 := Aside0.mk (Nat.le_trans (List.length_filter_le (fun z => decide (decide (z ∈ l1) = false)) l2) hlx2.out)
  go_enter Try.func75, Try.ntmps75
  go_wp2_with fail
  refine (diff_calls b1 N1 l1 b2 N2 l2 _ hSx1.out hSx2.out hlx1.out).mono ?_
  rintro e w1 ⟨rfl, hSw1, hB1⟩
  have hzw1 := Aside0.mk (Su.lt hSw1)
  have hSw1 := Aside0.mk hSw1
  have hB1 := Aside0.mk hB1
  go_wp2_with fail
  refine (diff_calls b2 N2 l2 b1 N1 l1 _ (S_below hSx2.out hB1.out) (S_below hSx1.out hB1.out) hlx2.out).mono ?_
  rintro e w2 ⟨rfl, hSw2, hB2⟩
  have hzw2 := Aside0.mk (Su.lt hSw2)
  have hSw2 := Aside0.mk hSw2
  have hB2 := Aside0.mk hB2
  go_wp2_with fail
  refine (union_calls w.heap.size _ _ w1.heap.size _ _ _ (S_below hSw1.out hB2.out) hSw2.out hf1.out hf2.out).mono ?_
  rintro e w3 ⟨rfl, hSw3, hB3⟩
  have hSw3 := Aside0.mk hSw3
  have hB3 := Aside0.mk hB3
  go_wp2_with fail
  go_ret
  have hBa := below_then hB1.out hB1.out.size hB2.out
  exact ⟨_, rfl, hSw3.out.congr (Nat.add_le_add (List.length_filter_le _ _) (List.length_filter_le _ _)) (fun _ => Iff.rfl), below_then hBa hBa.size hB3.out, hBa.size⟩

theorem infoE : (Try.prog.info? 9).map (fun i => (i.zero, i.size, i.bytes)) = some (some (.string ⟨#[]⟩), 1, 16) := by kernel_rfl
/-- The members, sorted. -/
def srt (l : List ByteArray) : List ByteArray := ((l.map fun s => s.data.toList).mergeSort fun x y => decide (x ≤ y)).map fun b => ⟨b.toArray⟩
theorem srt_length (l : List ByteArray) : (srt l).length = l.length := by unfold srt; rw [List.length_map, List.length_mergeSort, List.length_map]
theorem srt_perm {l m : List ByteArray} (h : l.Perm m) : srt l = srt m := by unfold srt; exact congrArg _ (mergeSort_of_perm (h.map _))
def canon (l : List ByteArray) : List ByteArray := srt (ded l)
def ListPost (l : List ByteArray) (w : World) (e : Ending) (w' : World) : Prop := ∃ (v : Value) (xs : List ByteArray), xs.Nodup ∧ (∀ x, x ∈ xs ↔ x ∈ l) ∧ e = .returned v ∧ v ≠ .slice none 0 0 ∧ w'.ownsRow w.heap.size 9 1 v xs.length (xs.map Value.string) ∧ Below w.heap.size w w'
set_option maxHeartbeats 600000 in
set_option maxRecDepth 100000 in
theorem unsorted_calls (b N : Nat) (l : List ByteArray) (w : World) (hS : S w b N l) (hl : l.length ≤ 8589934592) :
    Calls Try.prog 96 #[.map (some b)] w (ListPost l w) := by
  have hSx := Aside0.mk hS
  have hlx := Aside0.mk hl
  have hbb := Aside0.mk hS.lt
  clear hS hl
  obtain ⟨i0, hi, hz0, hz1, hz2⟩ := info_parts infoE
  have hi := Aside0.mk hi
  have hz0 := Aside0.mk hz0
  have hz1 := Aside0.mk hz1
  have hz2 := Aside0.mk hz2
  go_enter Try.func96, Try.ntmps96
  go_wp2_with (first
    | (at_len; refine wp_len _ kk rfl _ 81 rfl 105 Try.underlying81 b N l rfl hSx.out ?_; intro xs hxn hxm hxb; have hxl := nodup_length hxn (fun x hx => (hxm x).1 hx); clear hxn hxm hxb; have hxl := Aside0.mk hxl)
    | (at_make; refine wpList_make_own _ rfl _ _ 27 rfl w.heap.size 9 i0 _ 1 Try.underlying27 hi.out hz0.out hz1.out _ _ _ xs.length rfl rfl rfl (by rw [hz2.out]; have := hlx.out; have := hxl.out; omega) (by have := hlx.out; have := hxl.out; unfold maxLen; omega) (Nat.le_refl _) ?_; intro w1 hown1 hg1; have hown1 := Aside0.mk hown1; have hg1 := Aside0.mk hg1)
    | (at_range; refine wp_range _ kk rfl _ 81 rfl 105 Try.underlying81 b N l rfl (hSx.out.kept hg1.out (by simp)) ?_; intro w2 hGw2 hgw2 hzw2; have hGw2 := Aside0.mk hGw2; have hgw2 := Aside0.mk hgw2; have hzw2 := Aside0.mk hzw2)
    | go_in)
  go_frame
  go_loopw [3, 4] (fun v _ wr => ∃ done, G wr b w1.heap.size N l done ∧ wr.ownsRow w.heap.size 9 1 v done.length (done.map Value.string) ∧ v ≠ .slice none 0 0 ∧ Below w.heap.size w wr) (fun _ _ wr => wr.rangeLeft b w1.heap.size)
  case atStart => exact ⟨[], hGw2.out, hown1.out.kept hgw2.out (.inr (by simp [Value.ownBlock])), by simp, Below.grown (Below.grown (Below.refl _ _) hg1.out (Nat.le_refl _) (fun j hj => by cases hj)) hgw2.out hg1.out.size (fun j hj => by cases hj)⟩
  case round =>
    obtain ⟨done, hG, hrow, hnn, hB⟩ := hrel
    have hG := Aside0.mk hG
    have hrow := Aside0.mk hrow
    have hnn := Aside0.mk hnn
    have hB := Aside0.mk hB
    go_wp2_with (first
      | (at_next; refine wp_next _ kk rfl _ rfl b w1.heap.size N l done rfl hG.out ?_ ?_)
      | go_in)
    · intro hall
      have hall := Aside0.mk hall
      go_wp2
      go_ret
      obtain ⟨n, D, left, cnt, _, _, _, _, hn, hsub, _⟩ := hG.out
      exact ⟨_, done, hn, fun x => ⟨hsub x, hall.out x⟩, rfl, hnn.out, hrow.out, hB.out⟩
    · intro x w3 hok hxl2 hxd hG3 hlt hg3 hs3 hen
      clear hs3
      have hlen := hG3.length
      rw [List.length_append, List.length_singleton] at hlen
      have hlen := Aside0.mk (show done.length + 1 ≤ 8589934592 by have := hlx.out; omega)
      have hne := hG.out.row_ne hrow.out
      have hrow3 := Aside0.mk (World.ownsRow.kept hrow.out hg3 (.inr (fun h => hne h.symm)))
      have hB3 := Aside0.mk (Below.grown hB.out hg3 hB.out.size (fun j hj => by cases hj; exact hg1.out.size))
      have hG3 := Aside0.mk hG3
      have hlt := Aside0.mk hlt
      have hne := Aside0.mk hne
      clear hxl2 hxd hg3
      go_wp2_with (first
        | (at_builtin; refine wpList_append_own _ rfl _ _ 27 rfl w.heap.size 9 i0 _ 1 16 Try.underlying27 hi.out hz0.out hz1.out hz2.out rfl (by decide) _ _ _ rfl (hrow3.out.alloc _) ⟨w3.heap.size, 0, none⟩ 1 1 [Value.string x] rfl rfl (cell_one_new _ _ _) (fun u hu => by rw [List.mem_singleton.1 hu]; rfl) (by have := hlen.out; unfold maxLen; omega) (by have := hlen.out; omega) (Nat.le_trans hB3.out.size (by simp)) ?_; intro v' w4 hown4 hg4 hnil4; have hown4 := Aside0.mk hown4; have hg4 := Aside0.mk hg4; have hnil4 := Aside0.mk hnil4)
        | go_in)
      have hgg := alloc_then hg4.out
      have hbv : some b ≠ Value.ownBlock _ := fun e1 => by have := (hrow.out.lt b e1.symm).1; have := hbb.out; omega
      go_roundw
      case rel => exact ⟨done ++ [x], hG3.out.kept hgg hbv hne.out, by rw [List.length_append, List.map_append]; exact hown4.out, fun h => by have := (hnil4.out.1 h).2; omega, Below.grown hB3.out hgg hB3.out.size (fun j hj => (hrow.out.lt j hj).1)⟩
      case measure => rw [hG3.out.left hgg hbv hne.out]; exact hlt.out

theorem canon_eq {l xs : List ByteArray} (hn : xs.Nodup) (hm : ∀ x, x ∈ xs ↔ x ∈ l) : srt xs = canon l := srt_perm (ded_perm hn hm)
theorem canon_congr {l m : List ByteArray} (h : ∀ x, x ∈ l ↔ x ∈ m) : canon l = canon m := canon_eq (nodup_ded l) (fun x => by rw [mem_ded, h])
set_option maxHeartbeats 600000 in
set_option maxRecDepth 100000 in
theorem list_core (m : Value) (l : List ByteArray) (w : World) (hU : Calls Try.prog 96 #[m] w (ListPost l w)) (hl : l.length ≤ 8589934592) :
    Calls Try.prog 86 #[m] w fun e w' => ∃ v : Value, e = .returned v ∧ Kd.string.R 9 w' w.heap.size (fun _ => True) v (canon l) ∧ Below w.heap.size w w' := by
  have hU := Aside0.mk hU
  have hlx := Aside0.mk hl
  clear hl
  go_enter Try.func86, Try.ntmps86
  go_wp2_with fail
  refine hU.out.mono ?_
  rintro e w1 ⟨v, xs, hn, hm, rfl, hnn, hrow, hB⟩
  have hlen := nodup_length hn (fun x hx => (hm x).1 hx)
  rcases hrow.2 with ⟨hnil, _⟩ | ⟨g, cap, cur, rfl, hbase, hb, h1, h2, h3, h4⟩
  · exact absurd hnil hnn
  have hn := Aside0.mk hn
  have hm := Aside0.mk hm
  have hB := Aside0.mk hB
  have hbase := Aside0.mk hbase
  have hb := Aside0.mk hb
  have h1 := Aside0.mk h1
  have h2 := Aside0.mk h2
  have h3 := Aside0.mk h3
  have h4 := Aside0.mk h4
  have hlen := Aside0.mk hlen
  clear hnn hrow
  go_wp2_with fail
  have hh := Aside0.mk (holds_of_block (ss := xs.map fun s => s.data.toList) hb.out (by
    have := h4.out
    rw [Nat.mul_one] at this
    rw [List.length_map, this, List.map_map]
    rfl))
  have hcs := Aside0.mk (Try.slices_Sort_string g 0 cap (xs.map fun s => s.data.toList) w1 hh.out (Array.getElem?_eq_some_iff.1 hb.out).1 (by rw [List.length_map]; have := hlen.out; have := hlx.out; omega))
  have hcs := Aside0.mk (show Calls Try.prog 97 #[.slice (some ⟨g, 0, none⟩) xs.length cap] w1 _ from by have := hcs.out; rw [List.length_map] at this; exact this)
  refine hcs.out.mono ?_
  rintro e w2 ⟨rfl, nn, os, rfl⟩
  go_wp2_with fail
  go_ret
  refine ⟨_, rfl, ?_, Below.grown hB.out (grownBy_sorted _) hB.out.size (fun j hj => by cases hj; exact hbase.out)⟩
  have e1 := canon_eq hn.out hm.out
  have e2 := srt_length xs
  have e3 : ((xs.map fun s => s.data.toList).mergeSort fun x y => decide (x ≤ y)).length = (xs.map fun s => s.data.toList).length := List.length_mergeSort _
  have := ownsRow_sorted (n := nn) (os := os) (ss := xs.map fun s => s.data.toList) e3 hbase.out hb.out (by rw [List.length_map]; exact h1.out) h2.out h3.out
  rw [List.length_map] at this
  rw [← e1]
  refine Kd.R_of_own ?_ (fun _ _ => trivial)
  rw [e2]
  unfold encs srt
  rw [List.map_map]
  exact this

theorem list_calls (b N : Nat) (l : List ByteArray) (w : World) (hS : S w b N l) (hl : l.length ≤ 8589934592) :
    Calls Try.prog 86 #[.map (some b)] w fun e w' => ∃ v : Value, e = .returned v ∧ Kd.string.R 9 w' w.heap.size (fun _ => True) v (canon l) ∧ Below w.heap.size w w' :=
  list_core _ l w (unsorted_calls b N l w hS hl) hl
set_option maxHeartbeats 600000 in
set_option maxRecDepth 100000 in
theorem unsorted_nil (w : World) : Calls Try.prog 96 #[.map none] w (ListPost [] w) := by
  obtain ⟨i0, hi, hz0, hz1, hz2⟩ := info_parts infoE
  have hi := Aside0.mk hi
  have hz0 := Aside0.mk hz0
  have hz1 := Aside0.mk hz1
  have hz2 := Aside0.mk hz2
  have hln := fun ty (w : World) => Maps.len_nil (P := Try.prog) (w := w) Try.underlying81 ty
  have hrg := fun (w : World) => run_range_nilMap (P := Try.prog) w 81 9 105 Try.underlying81
  go_enter Try.func96, Try.ntmps96
  go_wp2_with (first
    | (at_make; refine wpList_make_own _ rfl _ _ 27 rfl w.heap.size 9 i0 _ 1 Try.underlying27 hi.out hz0.out hz1.out _ _ _ 0 rfl rfl rfl (by simp) (by simp) (Nat.le_refl _) ?_; intro w1 hown1 hg1; have hown1 := Aside0.mk hown1; have hg1 := Aside0.mk hg1)
    | go_in)
  have hnx : ∀ ty, (Instr.next (.pointer (some ⟨w1.heap.size, 0, none⟩)) false ty).run Try.prog (w1.alloc (.mapIter none 0 #[] 0)) = _ := fun ty => run_next_nilMap w1 ty 0 0 #[]
  refine wp_loop_rounds 1 ?_
  rw [rounds_succ]
  go_wp2
  go_ret
  exact ⟨_, [], List.nodup_nil, fun x => Iff.rfl, rfl, by simp, hown1.out.alloc _, (Below.grown (Below.refl _ _) hg1.out (Nat.le_refl _) (fun j hj => by cases hj)).alloc hg1.out.size _⟩
theorem list_nil (w : World) : Calls Try.prog 86 #[.map none] w fun e w' => ∃ v : Value, e = .returned v ∧ Kd.string.R 9 w' w.heap.size (fun _ => True) v (canon []) ∧ Below w.heap.size w w' :=
  list_core _ [] w (unsorted_nil w) (by simp)
def TestPost (w : World) (r : Bool) (e : Ending) (w' : World) : Prop := e = .returned (.bool r) ∧ Below w.heap.size w w'

set_option maxHeartbeats 600000 in
set_option maxRecDepth 100000 in
theorem hasall_calls (b N : Nat) (s : List ByteArray) (A : Option Addr) (l : List ByteArray) (c : Nat) (w : World) (hS : S w b N s) (hr : Kd.string.C w A l.length l) (hok : ∀ x ∈ l, (fun s : ByteArray => s.size ≤ maxLen) x) :
    Calls Try.prog 78 #[.map (some b), .slice A l.length c] w (TestPost w (l.all fun x => decide (x ∈ s))) := by
  have hlen := hr.2.1
  have hSx := Aside0.mk hS
  have hokx := Aside0.mk hok
  clear hS hok
  obtain ⟨res, hres⟩ : ∃ r, r = (l.all fun x => decide (x ∈ s)) := ⟨_, rfl⟩
  rw [← hres]
  have hresx := Aside0.mk hres
  clear hres
  go_enter Try.func78, Try.ntmps78
  go_wp2
  go_loopw [9] (fun i wr => ∃ k : Nat, k ≤ l.length ∧ i = .int .i64 k ∧ (∀ y ∈ l.take k, decide (y ∈ s) = true) ∧ Below w.heap.size w wr) (fun i _ => l.length - (intOf i).toNat)
  case atStart => exact ⟨0, Nat.zero_le _, rfl, by simp, Below.refl _ _⟩
  case round =>
    obtain ⟨k, hk, rfl, hall, hB⟩ := hrel
    have hrk := Kd.C_below hr hB
    have hall := Aside0.mk hall
    by_cases c3 : (k : Int) < (l.length : Int)
    · obtain ⟨x, hx⟩ : ∃ x, rdOf ByteArray.empty l (k : Int) = x := ⟨_, rfl⟩
      have hxl : l[k]? = some x := at_of hx (by omega)
      have hxm : x ∈ l := List.mem_of_getElem? hxl
      have p := Int.natCast_nonneg k
      obtain ⟨ad, e1, hcell⟩ := Kd.at_string hrk (k : Int) p c3
      rw [hx, Int.toNat_natCast] at hcell
      cases e1
      have c3b := decide_eq_true c3
      have hk2 := Aside0.mk (show k + 1 ≤ l.length by omega)
      have wk : wrap64 ((k : Int) + 1) = ((k + 1 : Nat) : Int) := by unfold wrap64; omega
      replace p := eq_true p
      replace c3 := eq_true c3
      have hok := hokx.out x hxm
      have hSi := Aside0.mk (S_below hSx.out hB)
      have hB := Aside0.mk hB
      clear hrk
      rcases hxr : decide (x ∈ s) with _ | _
      · have hxr := Aside0.mk hxr
        go_wp2_with (first
          | (go_at_call 82; refine (has_calls b N s x false _ hSi.out hok hxr.out).mono ?_; rintro e w' ⟨rfl, rfl⟩)
          | go_in)
        go_ret
        have hq : res = false := by
          rw [hresx.out]
          exact List.all_eq_false.2 ⟨x, hxm, by rw [hxr.out]; simp⟩
        exact ⟨by rw [hq]; rfl, hB.out.alloc hB.out.size _⟩
      · have hxr := Aside0.mk hxr
        go_wp2_with (first
          | (go_at_call 82; refine (has_calls b N s x true _ hSi.out hok hxr.out).mono ?_; rintro e w' ⟨rfl, rfl⟩)
          | go_in)
        go_roundw
        case measure => have := hk2.out; rw [wk]; exact meas this
        case rel =>
          refine ⟨k + 1, hk2.out, by rw [wk], ?_, hB.out.alloc hB.out.size _⟩
          rw [take_succ_of hxl]
          intro y hy
          rcases List.mem_append.1 hy with h | h
          · exact hall.out y h
          · rw [List.mem_singleton.1 h]; exact hxr.out
    · have c3b := decide_eq_false c3
      obtain rfl : k = l.length := by omega
      have hB := Aside0.mk hB
      clear hrk
      go_wp2
      go_ret
      have hq : res = true := by
        rw [hresx.out]
        have h := hall.out
        rw [List.take_length] at h
        exact List.all_eq_true.2 h
      exact ⟨by rw [hq]; rfl, hB.out⟩

set_option maxHeartbeats 600000 in
set_option maxRecDepth 100000 in
theorem hasany_calls (b N : Nat) (s : List ByteArray) (A : Option Addr) (l : List ByteArray) (c : Nat) (w : World) (hS : S w b N s) (hr : Kd.string.C w A l.length l) (hok : ∀ x ∈ l, (fun s : ByteArray => s.size ≤ maxLen) x) :
    Calls Try.prog 79 #[.map (some b), .slice A l.length c] w (TestPost w (l.any fun x => decide (x ∈ s))) := by
  have hlen := hr.2.1
  have hSx := Aside0.mk hS
  have hokx := Aside0.mk hok
  clear hS hok
  obtain ⟨res, hres⟩ : ∃ r, r = (l.any fun x => decide (x ∈ s)) := ⟨_, rfl⟩
  rw [← hres]
  have hresx := Aside0.mk hres
  clear hres
  go_enter Try.func79, Try.ntmps79
  go_wp2
  go_loopw [9] (fun i wr => ∃ k : Nat, k ≤ l.length ∧ i = .int .i64 k ∧ (∀ y ∈ l.take k, decide (y ∈ s) = false) ∧ Below w.heap.size w wr) (fun i _ => l.length - (intOf i).toNat)
  case atStart => exact ⟨0, Nat.zero_le _, rfl, by simp, Below.refl _ _⟩
  case round =>
    obtain ⟨k, hk, rfl, hall, hB⟩ := hrel
    have hrk := Kd.C_below hr hB
    have hall := Aside0.mk hall
    by_cases c3 : (k : Int) < (l.length : Int)
    · obtain ⟨x, hx⟩ : ∃ x, rdOf ByteArray.empty l (k : Int) = x := ⟨_, rfl⟩
      have hxl : l[k]? = some x := at_of hx (by omega)
      have hxm : x ∈ l := List.mem_of_getElem? hxl
      have p := Int.natCast_nonneg k
      obtain ⟨ad, e1, hcell⟩ := Kd.at_string hrk (k : Int) p c3
      rw [hx, Int.toNat_natCast] at hcell
      cases e1
      have c3b := decide_eq_true c3
      have hk2 := Aside0.mk (show k + 1 ≤ l.length by omega)
      have wk : wrap64 ((k : Int) + 1) = ((k + 1 : Nat) : Int) := by unfold wrap64; omega
      replace p := eq_true p
      replace c3 := eq_true c3
      have hok := hokx.out x hxm
      have hSi := Aside0.mk (S_below hSx.out hB)
      have hB := Aside0.mk hB
      clear hrk
      rcases hxr : decide (x ∈ s) with _ | _
      · have hxr := Aside0.mk hxr
        go_wp2_with (first
          | (go_at_call 82; refine (has_calls b N s x false _ hSi.out hok hxr.out).mono ?_; rintro e w' ⟨rfl, rfl⟩)
          | go_in)
        go_roundw
        case measure => have := hk2.out; rw [wk]; exact meas this
        case rel =>
          refine ⟨k + 1, hk2.out, by rw [wk], ?_, hB.out.alloc hB.out.size _⟩
          rw [take_succ_of hxl]
          intro y hy
          rcases List.mem_append.1 hy with h | h
          · exact hall.out y h
          · rw [List.mem_singleton.1 h]; exact hxr.out
      · have hxr := Aside0.mk hxr
        go_wp2_with (first
          | (go_at_call 82; refine (has_calls b N s x true _ hSi.out hok hxr.out).mono ?_; rintro e w' ⟨rfl, rfl⟩)
          | go_in)
        go_ret
        have hq : res = true := by
          rw [hresx.out]
          exact List.any_eq_true.2 ⟨x, hxm, hxr.out⟩
        exact ⟨by rw [hq]; rfl, hB.out.alloc hB.out.size _⟩
    · have c3b := decide_eq_false c3
      obtain rfl : k = l.length := by omega
      have hB := Aside0.mk hB
      clear hrk
      go_wp2
      go_ret
      have hq : res = false := by
        rw [hresx.out]
        have h := hall.out
        rw [List.take_length] at h
        exact List.any_eq_false.2 (fun y hy => by rw [h y hy]; simp)
      exact ⟨by rw [hq]; rfl, hB.out⟩

set_option maxHeartbeats 600000 in
set_option maxRecDepth 100000 in
theorem super_calls (b1 N1 : Nat) (l1 : List ByteArray) (b2 N2 : Nat) (l2 : List ByteArray) (w : World) (hS1 : S w b1 N1 l1) (hS2 : S w b2 N2 l2) :
    Calls Try.prog 80 #[.map (some b1), .map (some b2)] w (TestPost w (l2.all fun x => decide (x ∈ l1))) := by
  have hSx1 := Aside0.mk hS1
  have hSx2 := Aside0.mk hS2
  clear hS1 hS2
  obtain ⟨res, hres⟩ : ∃ r, r = (l2.all fun x => decide (x ∈ l1)) := ⟨_, rfl⟩
  rw [← hres]
  have hresx := Aside0.mk hres
  clear hres
  go_enter Try.func80, Try.ntmps80
  go_wp2_with (first
    | (at_range; refine wp_range _ kk rfl _ 81 rfl 105 Try.underlying81 b2 N2 l2 rfl hSx2.out ?_; intro w2 hGw2 hgw2 hzw2; have hGw2 := Aside0.mk hGw2; have hgw2 := Aside0.mk hgw2; have hzw2 := Aside0.mk hzw2)
    | go_in)
  go_frame
  go_loopw [5] (fun _ wr => ∃ done, G wr b2 w.heap.size N2 l2 done ∧ (∀ y ∈ done, decide (y ∈ l1) = true) ∧ Below w.heap.size w wr) (fun _ wr => wr.rangeLeft b2 w.heap.size)
  case atStart => exact ⟨[], hGw2.out, by simp, Below.grown (Below.refl _ _) hgw2.out (Nat.le_refl _) (fun j hj => by cases hj)⟩
  case round =>
    obtain ⟨done, hG, hall, hB⟩ := hrel
    have hG := Aside0.mk hG
    have hall := Aside0.mk hall
    have hB := Aside0.mk hB
    go_wp2_with (first
      | (at_next; refine wp_next _ kk rfl _ rfl b2 w.heap.size N2 l2 done rfl hG.out ?_ ?_)
      | go_in)
    · intro hend
      have hend := Aside0.mk hend
      go_wp2
      go_ret
      have hq : res = true := by
        rw [hresx.out]
        exact List.all_eq_true.2 (fun y hy => hall.out y (hend.out y hy))
      exact ⟨by rw [hq]; rfl, hB.out⟩
    · intro x w3 hok hxl hxd hG3 hlt hg3 hs3 hen
      clear hs3
      have hBx := Aside0.mk (Below.grown hB.out hg3 hB.out.size (fun j hj => by cases hj; exact Nat.le_refl _))
      have hSi := Aside0.mk (S_below hSx1.out hBx.out)
      have hG3 := Aside0.mk hG3
      have hlt := Aside0.mk hlt
      have hxl := Aside0.mk hxl
      clear hxd hg3
      rcases hxr : decide (x ∈ l1) with _ | _
      · have hxr := Aside0.mk hxr
        go_wp2_with (first
          | (go_at_call 82; refine (has_calls b1 N1 l1 x false _ hSi.out hok hxr.out).mono ?_; rintro e w' ⟨rfl, rfl⟩)
          | go_in)
        go_ret
        have hq : res = false := by
          rw [hresx.out]
          exact List.all_eq_false.2 ⟨x, hxl.out, by rw [hxr.out]; simp⟩
        exact ⟨by rw [hq]; rfl, hBx.out.alloc hBx.out.size _⟩
      · have hxr := Aside0.mk hxr
        go_wp2_with (first
          | (go_at_call 82; refine (has_calls b1 N1 l1 x true _ hSi.out hok hxr.out).mono ?_; rintro e w' ⟨rfl, rfl⟩)
          | go_in)
        have n1 : some b2 ≠ (none : Option Nat) := by simp
        have n2 : some w.heap.size ≠ (none : Option Nat) := by simp
        go_roundw
        case rel =>
          refine ⟨done ++ [x], hG3.out.kept (World.grownBy_alloc _ _ none) n1 n2, fun y hy => ?_, hBx.out.alloc hBx.out.size _⟩
          rcases List.mem_append.1 hy with h | h
          · exact hall.out y h
          · rw [List.mem_singleton.1 h]; exact hxr.out
        case measure => rw [hG3.out.left (World.grownBy_alloc _ _ none) n1 n2]; exact hlt.out

set_option maxHeartbeats 600000 in
set_option maxRecDepth 100000 in
theorem equal_no (b1 N1 : Nat) (l1 : List ByteArray) (b2 N2 : Nat) (l2 : List ByteArray) (w : World) (hS1 : S w b1 N1 l1) (hS2 : S w b2 N2 l2) (h : (ded l1).length ≠ (ded l2).length) :
    Calls Try.prog 81 #[.map (some b1), .map (some b2)] w (TestPost w false) := by
  have hSx1 := Aside0.mk hS1
  have hSx2 := Aside0.mk hS2
  clear hS1 hS2
  have hsup := Aside0.mk (super_calls b1 N1 l1 b2 N2 l2 w hSx1.out hSx2.out)
  obtain ⟨d1, hd1⟩ : ∃ d, d = (ded l1).length := ⟨_, rfl⟩
  obtain ⟨d2, hd2⟩ : ∃ d, d = (ded l2).length := ⟨_, rfl⟩
  rw [← hd1, ← hd2] at h
  have hd1x := Aside0.mk hd1
  have hd2x := Aside0.mk hd2
  clear hd1 hd2
  have hq : (((d1 : Nat) : Int) == ((d2 : Nat) : Int)) = false := by simp; omega
  clear h
  go_enter Try.func81, Try.ntmps81
  go_wp2_with (first
    | (at_len; refine wp_len2 _ kk rfl _ 81 rfl 105 Try.underlying81 b1 N1 l1 rfl hSx1.out ?_; rw [← hd1x.out])
    | (at_len; refine wp_len2 _ kk rfl _ 81 rfl 105 Try.underlying81 b2 N2 l2 rfl hSx2.out ?_; rw [← hd2x.out])
    | go_in)
  go_ret
  exact ⟨rfl, Below.refl _ _⟩

set_option maxHeartbeats 600000 in
set_option maxRecDepth 100000 in
theorem equal_yes (b1 N1 : Nat) (l1 : List ByteArray) (b2 N2 : Nat) (l2 : List ByteArray) (w : World) (hS1 : S w b1 N1 l1) (hS2 : S w b2 N2 l2) (h : (ded l1).length = (ded l2).length) :
    Calls Try.prog 81 #[.map (some b1), .map (some b2)] w (TestPost w (l2.all fun x => decide (x ∈ l1))) := by
  have hSx1 := Aside0.mk hS1
  have hSx2 := Aside0.mk hS2
  clear hS1 hS2
  have hsup := Aside0.mk (super_calls b1 N1 l1 b2 N2 l2 w hSx1.out hSx2.out)
  obtain ⟨d1, hd1⟩ : ∃ d, d = (ded l1).length := ⟨_, rfl⟩
  obtain ⟨d2, hd2⟩ : ∃ d, d = (ded l2).length := ⟨_, rfl⟩
  rw [← hd1, ← hd2] at h
  have hd1x := Aside0.mk hd1
  have hd2x := Aside0.mk hd2
  clear hd1 hd2
  subst h
  obtain ⟨res, hres⟩ : ∃ r, r = (l2.all fun x => decide (x ∈ l1)) := ⟨_, rfl⟩
  rw [← hres]
  rw [← hres] at hsup
  have hresx := Aside0.mk hres
  clear hres
  go_enter Try.func81, Try.ntmps81
  go_wp2_with (first
    | (at_len; refine wp_len2 _ kk rfl _ 81 rfl 105 Try.underlying81 b1 N1 l1 rfl hSx1.out ?_; rw [← hd1x.out])
    | (at_len; refine wp_len2 _ kk rfl _ 81 rfl 105 Try.underlying81 b2 N2 l2 rfl hSx2.out ?_; rw [← hd2x.out])
    | (go_at_call 80; refine hsup.out.mono ?_; rintro e w1 ⟨rfl, hB⟩; have hBx := Aside0.mk hB; clear hB)
    | go_in)
  go_ret
  exact ⟨rfl, hBx.out⟩

set_option maxHeartbeats 600000 in
set_option maxRecDepth 100000 in
theorem delete_calls (b N : Nat) (s : List ByteArray) (A : Option Addr) (l : List ByteArray) (c : Nat) (w : World) (hS : S w b N s) (hr : Kd.string.C w A l.length l) (hok : ∀ x ∈ l, (fun s : ByteArray => s.size ≤ maxLen) x) :
    Calls Try.prog 77 #[.map (some b), .slice A l.length c] w fun e w' => e = .returned (.map (some b)) ∧ S w' b N (s.filter fun z => decide (z ∈ l) = false) ∧ w.grownBy w' (some b) := by
  have hlen := hr.2.1
  obtain ⟨fl, hfl⟩ : ∃ f, f = (s.filter fun z => decide (z ∈ l) = false) := ⟨_, rfl⟩
  rw [← hfl]
  have hflx := Aside0.mk hfl
  clear hfl
  go_enter Try.func77, Try.ntmps77
  go_wp2
  go_loopw [9] (fun i wr => ∃ k : Nat, k ≤ l.length ∧ i = .int .i64 k ∧ S wr b N (s.filter fun z => decide (z ∈ l.take k) = false) ∧ w.grownBy wr (some b)) (fun i _ => l.length - (intOf i).toNat)
  case atStart => exact ⟨0, Nat.zero_le _, rfl, Su.congr hS (Nat.le_refl _) (fun x => by rw [List.mem_filter]; simp), World.grownBy.refl _ _⟩
  case round =>
    obtain ⟨k, hk, rfl, hSk, hgk⟩ := hrel
    have hrk := C_set hr hS hgk
    by_cases c3 : (k : Int) < (l.length : Int)
    · obtain ⟨x, hx⟩ : ∃ x, rdOf ByteArray.empty l (k : Int) = x := ⟨_, rfl⟩
      have hxl : l[k]? = some x := at_of hx (by omega)
      have hxm : x ∈ l := List.mem_of_getElem? hxl
      have p := Int.natCast_nonneg k
      obtain ⟨ad, e1, hcell⟩ := Kd.at_string hrk (k : Int) p c3
      rw [hx, Int.toNat_natCast] at hcell
      cases e1
      have c3b := decide_eq_true c3
      have hk2 := Aside0.mk (show k + 1 ≤ l.length by omega)
      have wk : wrap64 ((k : Int) + 1) = ((k + 1 : Nat) : Int) := by unfold wrap64; omega
      replace p := eq_true p
      replace c3 := eq_true c3
      have hSx := Aside0.mk hSk
      have hgx := Aside0.mk hgk
      clear hSk hgk hrk
      go_wp2_with (first
        | (at_delete; refine wp_del _ kk rfl _ _ 81 rfl 105 Try.underlying81 b N _ rfl hSx.out x (hok x hxm) rfl ?_; intro w1 hS1 hg1; have hS1 := Aside0.mk hS1; have hg1 := Aside0.mk hg1)
        | go_in)
      go_roundw
      case measure => have := hk2.out; rw [wk]; exact meas this
      case rel =>
        refine ⟨k + 1, hk2.out, by rw [wk], Su.congr hS1.out (Nat.le_refl _) (fun y => ?_), hgx.out.andThen hg1.out (fun j hj => .inr hj)⟩
        rw [List.mem_filter, List.mem_filter, List.mem_filter, take_succ_of hxl]
        simp only [List.mem_append, List.mem_singleton, decide_eq_true_iff, decide_eq_false_iff_not, ne_eq, not_or, and_assoc]
    · have c3b := decide_eq_false c3
      obtain rfl : k = l.length := by omega
      rw [List.take_length] at hSk
      have hSx := Aside0.mk hSk
      have hgx := Aside0.mk hgk
      clear hSk hgk hrk
      go_wp2
      go_ret
      exact ⟨rfl, Su.congr hSx.out (Nat.le_refl _) (fun x => by rw [hflx.out]), hgx.out⟩

set_option maxHeartbeats 600000 in
set_option maxRecDepth 100000 in
theorem clear_calls (b N : Nat) (l : List ByteArray) (w : World) (hS : S w b N l) :
    Calls Try.prog 84 #[.map (some b)] w fun e w' => e = .returned (.map (some b)) ∧ S w' b 0 [] ∧ w.grownBy w' (some b) := by
  have hSx := Aside0.mk hS
  clear hS
  go_enter Try.func84, Try.ntmps84
  go_wp2_with (first
    | (refine wp_clear (α := ByteArray) (k := 9) (lit := (fun s : ByteArray => Lit.string s.data.toList)) (OK := (fun s : ByteArray => s.size ≤ maxLen)) _ rfl _ 81 rfl 105 Try.underlying81 b N l rfl hSx.out ?_; intro w1 hS1 hg1; have hS1 := Aside0.mk hS1; have hg1 := Aside0.mk hg1)
    | go_in)
  go_ret
  exact ⟨rfl, hS1.out, hg1.out⟩

/-- What an operation on two sets hands back: three rows of its own, apart, and a truth. -/
def OpsPost (w : World) (r0 r1 r2 : List ByteArray) (ok : Bool) (e : Ending) (w' : World) : Prop := ∃ v0_ v1_ v2_ : Value, e = .returned (.tuple #[v0_, v1_, v2_, .bool ok]) ∧ Kd.string.R 9 w' w.heap.size (fun k_ => some k_ ≠ (v1_ : Value).ownBlock ∧ some k_ ≠ (v2_ : Value).ownBlock) v0_ r0 ∧ Kd.string.R 9 w' w.heap.size (fun k_ => some k_ ≠ (v0_ : Value).ownBlock ∧ some k_ ≠ (v2_ : Value).ownBlock) v1_ r1 ∧ Kd.string.R 9 w' w.heap.size (fun k_ => some k_ ≠ (v0_ : Value).ownBlock ∧ some k_ ≠ (v1_ : Value).ownBlock) v2_ r2 ∧ Below w.heap.size w w'
theorem R_in {α : Type} {d : Kd α} {e : Nat} {w : World} {base : Nat} {ok : Nat → Prop} {v : Value} {xs : List α} (h : d.R e w base ok v xs) : ∀ k, v.ownBlock = some k → base ≤ k ∧ k < w.heap.size := fun k hk => by
  obtain ⟨inner, ho⟩ := Kd.R_own h
  exact ⟨own_base ho k hk, own_lt ho k hk⟩
theorem three {w W w1 w2 w3 : World} {v0 v1 v2 : Value} {r0 r1 r2 : List ByteArray} {ok : Bool} (hB : Below w.heap.size w W) (h0 : Kd.string.R 9 w1 W.heap.size (fun _ => True) v0 r0) (B0 : Below W.heap.size W w1)
    (h1 : Kd.string.R 9 w2 w1.heap.size (fun _ => True) v1 r1) (B1 : Below w1.heap.size w1 w2) (h2 : Kd.string.R 9 w3 w2.heap.size (fun _ => True) v2 r2) (B2 : Below w2.heap.size w2 w3) : OpsPost w r0 r1 r2 ok (.returned (.tuple #[v0, v1, v2, .bool ok])) w3 := by
  have i0 := R_in h0
  have i1 := R_in h1
  have i2 := R_in h2
  have s0 := B0.size
  have s1 := B1.size
  have s2 := B2.size
  have hs := hB.size
  have B12 := below_then B1 B1.size B2
  refine ⟨v0, v1, v2, rfl, Kd.R_mono (Kd.R_lower (Kd.R_below (Kd.R_bound h0) B12) hs) (fun k hk => ⟨fun e => ?_, fun e => ?_⟩), Kd.R_mono (Kd.R_lower (Kd.R_below (Kd.R_bound h1) B2) (Nat.le_trans hs s0)) (fun k hk => ⟨fun e => ?_, fun e => ?_⟩), Kd.R_mono (Kd.R_lower (Kd.R_bound h2) (Nat.le_trans hs (Nat.le_trans s0 s1))) (fun k hk => ⟨fun e => ?_, fun e => ?_⟩), below_then (below_then (below_then hB hs B0) (Nat.le_trans hs s0) B1) (Nat.le_trans hs (Nat.le_trans s0 s1)) B2⟩
  · have := i1 k e.symm; have := hk.2.2.1; omega
  · have := i2 k e.symm; have := hk.2.2.1; omega
  · have := i0 k e.symm; have := hk.2.1; omega
  · have := i2 k e.symm; have := hk.2.2.1; omega
  · have := i0 k e.symm; have := hk.2.1; omega
  · have := i1 k e.symm; have := hk.2.1; omega

set_option maxHeartbeats 600000 in
set_option maxRecDepth 100000 in
theorem ops0 (A1 : Option Addr) (c1 : Nat) (l1 : List ByteArray) (A2 : Option Addr) (c2 : Nat) (l2 : List ByteArray) (A3 : Option Addr) (c3 : Nat) (l3 : List ByteArray) (w : World) (hr1 : Kd.string.C w A1 l1.length l1) (hc1 : l1.length ≤ c1) (hr2 : Kd.string.C w A2 l2.length l2) (hc2 : l2.length ≤ c2) (hr3 : Kd.string.C w A3 l3.length l3) (hc3 : l3.length ≤ c3) (hn : l1.length ≤ 2147483647 ∧ l2.length ≤ 2147483647 ∧ l3.length ≤ 2147483647) (hok1 : ∀ x ∈ l1, (fun s : ByteArray => s.size ≤ maxLen) x) (hok2 : ∀ x ∈ l2, (fun s : ByteArray => s.size ≤ maxLen) x) (hok3 : ∀ x ∈ l3, (fun s : ByteArray => s.size ≤ maxLen) x) :
    Calls Try.prog 41 #[.int .i64 0, .slice A1 l1.length c1, .slice A2 l2.length c2, .slice A3 l3.length c3] w (OpsPost w (canon (l1)) (canon (l1)) (canon l2) false) := by
  have hr1 := Aside0.mk hr1
  have hr2 := Aside0.mk hr2
  have hr3 := Aside0.mk hr3
  have hn := Aside0.mk hn
  have hok1 := Aside0.mk hok1
  have hok2 := Aside0.mk hok2
  have hok3 := Aside0.mk hok3
  have hc1 := Aside0.mk hc1
  have hc2 := Aside0.mk hc2
  have hc3 := Aside0.mk hc3
  go_enter Try.func41, Try.ntmps41
  go_wp2_with fail
  refine (new_calls A1 l1 c1 _ hr1.out hc1.out (by have := hn.out; unfold maxLen; omega) hok1.out).mono ?_
  rintro e w1 ⟨rfl, hSx, hB1⟩
  have hzx := Aside0.mk (Su.lt hSx)
  have hSx := Aside0.mk hSx
  have hB1 := Aside0.mk hB1
  go_wp2_with fail
  refine (new_calls A2 l2 c2 _ (Kd.C_below hr2.out hB1.out) hc2.out (by have := hn.out; unfold maxLen; omega) hok2.out).mono ?_
  rintro e w2 ⟨rfl, hSy, hB2⟩
  have hzy := Aside0.mk (Su.lt hSy)
  have hSx := Aside0.mk (S_below hSx.out hB2)
  have hSy := Aside0.mk hSy
  have hB2 := Aside0.mk (below_then hB1.out hB1.out.size hB2)
  go_wp2_with fail
  refine (clone_calls _ _ l1 _ hSx.out (by have := hn.out; omega)).mono ?_
  rintro e w3 ⟨rfl, hSz, hB3⟩
  have hzz := Aside0.mk (Su.lt hSz)
  have hSx := Aside0.mk (S_below hSx.out hB3)
  have hSy := Aside0.mk (S_below hSy.out hB3)
  have hSz := Aside0.mk hSz
  have hB3 := Aside0.mk (below_then hB2.out hB2.out.size hB3)
  have hlx := Aside0.mk (show l1.length ≤ 4294967296 by have := hn.out; omega)
  have hlz := Aside0.mk (show l1.length ≤ 4294967296 by have := hn.out; omega)
  go_wp2_with fail
  refine (list_calls _ _ _ _ hSz.out (by have := hn.out; have := hlz.out; omega)).mono ?_
  rintro e w4 ⟨v0, rfl, hv0, hB4⟩
  have hSx := Aside0.mk (S_below hSx.out hB4)
  have hSy := Aside0.mk (S_below hSy.out hB4)
  have hv0 := Aside0.mk hv0
  have hB4 := Aside0.mk hB4
  go_wp2_with fail
  refine (list_calls _ _ _ _ hSx.out (by have := hn.out; have := hlx.out; omega)).mono ?_
  rintro e w5 ⟨v1, rfl, hv1, hB5⟩
  have hSy := Aside0.mk (S_below hSy.out hB5)
  have hv1 := Aside0.mk hv1
  have hB5 := Aside0.mk hB5
  go_wp2_with fail
  refine (list_calls _ _ _ _ hSy.out (by have := hn.out; omega)).mono ?_
  rintro e w6 ⟨v2, rfl, hv2, hB6⟩
  have hv2 := Aside0.mk hv2
  have hB6 := Aside0.mk hB6
  go_wp2_with fail
  refine bodyPost_ret (v := .tuple #[v0, v1, v2, .bool false]) (by simp [results, Try.results41, go_sem]) rfl ?_
  exact three hB3.out hv0.out hB4.out hv1.out hB5.out hv2.out hB6.out

set_option maxHeartbeats 600000 in
set_option maxRecDepth 100000 in
theorem ops1 (A1 : Option Addr) (c1 : Nat) (l1 : List ByteArray) (A2 : Option Addr) (c2 : Nat) (l2 : List ByteArray) (A3 : Option Addr) (c3 : Nat) (l3 : List ByteArray) (w : World) (hr1 : Kd.string.C w A1 l1.length l1) (hc1 : l1.length ≤ c1) (hr2 : Kd.string.C w A2 l2.length l2) (hc2 : l2.length ≤ c2) (hr3 : Kd.string.C w A3 l3.length l3) (hc3 : l3.length ≤ c3) (hn : l1.length ≤ 2147483647 ∧ l2.length ≤ 2147483647 ∧ l3.length ≤ 2147483647) (hok1 : ∀ x ∈ l1, (fun s : ByteArray => s.size ≤ maxLen) x) (hok2 : ∀ x ∈ l2, (fun s : ByteArray => s.size ≤ maxLen) x) (hok3 : ∀ x ∈ l3, (fun s : ByteArray => s.size ≤ maxLen) x) :
    Calls Try.prog 41 #[.int .i64 1, .slice A1 l1.length c1, .slice A2 l2.length c2, .slice A3 l3.length c3] w (OpsPost w (canon (l1 ++ l2)) (canon (l1)) (canon l2) false) := by
  have hr1 := Aside0.mk hr1
  have hr2 := Aside0.mk hr2
  have hr3 := Aside0.mk hr3
  have hn := Aside0.mk hn
  have hok1 := Aside0.mk hok1
  have hok2 := Aside0.mk hok2
  have hok3 := Aside0.mk hok3
  have hc1 := Aside0.mk hc1
  have hc2 := Aside0.mk hc2
  have hc3 := Aside0.mk hc3
  go_enter Try.func41, Try.ntmps41
  go_wp2_with fail
  refine (new_calls A1 l1 c1 _ hr1.out hc1.out (by have := hn.out; unfold maxLen; omega) hok1.out).mono ?_
  rintro e w1 ⟨rfl, hSx, hB1⟩
  have hzx := Aside0.mk (Su.lt hSx)
  have hSx := Aside0.mk hSx
  have hB1 := Aside0.mk hB1
  go_wp2_with fail
  refine (new_calls A2 l2 c2 _ (Kd.C_below hr2.out hB1.out) hc2.out (by have := hn.out; unfold maxLen; omega) hok2.out).mono ?_
  rintro e w2 ⟨rfl, hSy, hB2⟩
  have hzy := Aside0.mk (Su.lt hSy)
  have hSx := Aside0.mk (S_below hSx.out hB2)
  have hSy := Aside0.mk hSy
  have hB2 := Aside0.mk (below_then hB1.out hB1.out.size hB2)
  go_wp2_with fail
  refine (union_calls _ _ l1 _ _ l2 _ hSx.out hSy.out (by have := hn.out; omega) (by have := hn.out; omega)).mono ?_
  rintro e w3 ⟨rfl, hSz, hB3⟩
  have hzz := Aside0.mk (Su.lt hSz)
  have hSx := Aside0.mk (S_below hSx.out hB3)
  have hSy := Aside0.mk (S_below hSy.out hB3)
  have hSz := Aside0.mk hSz
  have hB3 := Aside0.mk (below_then hB2.out hB2.out.size hB3)
  have hlx := Aside0.mk (show l1.length ≤ 4294967296 by have := hn.out; omega)
  have hlz := Aside0.mk (show (l1 ++ l2).length ≤ 4294967296 by rw [List.length_append]; have := hn.out; omega)
  go_wp2_with fail
  refine (list_calls _ _ _ _ hSz.out (by have := hn.out; have := hlz.out; omega)).mono ?_
  rintro e w4 ⟨v0, rfl, hv0, hB4⟩
  have hSx := Aside0.mk (S_below hSx.out hB4)
  have hSy := Aside0.mk (S_below hSy.out hB4)
  have hv0 := Aside0.mk hv0
  have hB4 := Aside0.mk hB4
  go_wp2_with fail
  refine (list_calls _ _ _ _ hSx.out (by have := hn.out; have := hlx.out; omega)).mono ?_
  rintro e w5 ⟨v1, rfl, hv1, hB5⟩
  have hSy := Aside0.mk (S_below hSy.out hB5)
  have hv1 := Aside0.mk hv1
  have hB5 := Aside0.mk hB5
  go_wp2_with fail
  refine (list_calls _ _ _ _ hSy.out (by have := hn.out; omega)).mono ?_
  rintro e w6 ⟨v2, rfl, hv2, hB6⟩
  have hv2 := Aside0.mk hv2
  have hB6 := Aside0.mk hB6
  go_wp2_with fail
  refine bodyPost_ret (v := .tuple #[v0, v1, v2, .bool false]) (by simp [results, Try.results41, go_sem]) rfl ?_
  exact three hB3.out hv0.out hB4.out hv1.out hB5.out hv2.out hB6.out

set_option maxHeartbeats 600000 in
set_option maxRecDepth 100000 in
theorem ops2 (A1 : Option Addr) (c1 : Nat) (l1 : List ByteArray) (A2 : Option Addr) (c2 : Nat) (l2 : List ByteArray) (A3 : Option Addr) (c3 : Nat) (l3 : List ByteArray) (w : World) (hr1 : Kd.string.C w A1 l1.length l1) (hc1 : l1.length ≤ c1) (hr2 : Kd.string.C w A2 l2.length l2) (hc2 : l2.length ≤ c2) (hr3 : Kd.string.C w A3 l3.length l3) (hc3 : l3.length ≤ c3) (hn : l1.length ≤ 2147483647 ∧ l2.length ≤ 2147483647 ∧ l3.length ≤ 2147483647) (hok1 : ∀ x ∈ l1, (fun s : ByteArray => s.size ≤ maxLen) x) (hok2 : ∀ x ∈ l2, (fun s : ByteArray => s.size ≤ maxLen) x) (hok3 : ∀ x ∈ l3, (fun s : ByteArray => s.size ≤ maxLen) x) :
    Calls Try.prog 41 #[.int .i64 2, .slice A1 l1.length c1, .slice A2 l2.length c2, .slice A3 l3.length c3] w (OpsPost w (canon (l1.filter fun z => decide (z ∈ l2) = true)) (canon (l1)) (canon l2) false) := by
  have hr1 := Aside0.mk hr1
  have hr2 := Aside0.mk hr2
  have hr3 := Aside0.mk hr3
  have hn := Aside0.mk hn
  have hok1 := Aside0.mk hok1
  have hok2 := Aside0.mk hok2
  have hok3 := Aside0.mk hok3
  have hc1 := Aside0.mk hc1
  have hc2 := Aside0.mk hc2
  have hc3 := Aside0.mk hc3
  go_enter Try.func41, Try.ntmps41
  go_wp2_with fail
  refine (new_calls A1 l1 c1 _ hr1.out hc1.out (by have := hn.out; unfold maxLen; omega) hok1.out).mono ?_
  rintro e w1 ⟨rfl, hSx, hB1⟩
  have hzx := Aside0.mk (Su.lt hSx)
  have hSx := Aside0.mk hSx
  have hB1 := Aside0.mk hB1
  go_wp2_with fail
  refine (new_calls A2 l2 c2 _ (Kd.C_below hr2.out hB1.out) hc2.out (by have := hn.out; unfold maxLen; omega) hok2.out).mono ?_
  rintro e w2 ⟨rfl, hSy, hB2⟩
  have hzy := Aside0.mk (Su.lt hSy)
  have hSx := Aside0.mk (S_below hSx.out hB2)
  have hSy := Aside0.mk hSy
  have hB2 := Aside0.mk (below_then hB1.out hB1.out.size hB2)
  go_wp2_with fail
  refine (inter_calls _ _ l1 _ _ l2 _ hSx.out hSy.out (by have := hn.out; omega) (by have := hn.out; omega)).mono ?_
  rintro e w3 ⟨rfl, hSz, hB3⟩
  have hzz := Aside0.mk (Su.lt hSz)
  have hSx := Aside0.mk (S_below hSx.out hB3)
  have hSy := Aside0.mk (S_below hSy.out hB3)
  have hSz := Aside0.mk hSz
  have hB3 := Aside0.mk (below_then hB2.out hB2.out.size hB3)
  have hlx := Aside0.mk (show l1.length ≤ 4294967296 by have := hn.out; omega)
  have hlz := Aside0.mk (Nat.le_trans (List.length_filter_le (fun z => decide (decide (z ∈ l2) = true)) l1) hlx.out)
  go_wp2_with fail
  refine (list_calls _ _ _ _ hSz.out (by have := hn.out; have := hlz.out; omega)).mono ?_
  rintro e w4 ⟨v0, rfl, hv0, hB4⟩
  have hSx := Aside0.mk (S_below hSx.out hB4)
  have hSy := Aside0.mk (S_below hSy.out hB4)
  have hv0 := Aside0.mk hv0
  have hB4 := Aside0.mk hB4
  go_wp2_with fail
  refine (list_calls _ _ _ _ hSx.out (by have := hn.out; have := hlx.out; omega)).mono ?_
  rintro e w5 ⟨v1, rfl, hv1, hB5⟩
  have hSy := Aside0.mk (S_below hSy.out hB5)
  have hv1 := Aside0.mk hv1
  have hB5 := Aside0.mk hB5
  go_wp2_with fail
  refine (list_calls _ _ _ _ hSy.out (by have := hn.out; omega)).mono ?_
  rintro e w6 ⟨v2, rfl, hv2, hB6⟩
  have hv2 := Aside0.mk hv2
  have hB6 := Aside0.mk hB6
  go_wp2_with fail
  refine bodyPost_ret (v := .tuple #[v0, v1, v2, .bool false]) (by simp [results, Try.results41, go_sem]) rfl ?_
  exact three hB3.out hv0.out hB4.out hv1.out hB5.out hv2.out hB6.out

set_option maxHeartbeats 600000 in
set_option maxRecDepth 100000 in
theorem ops3 (A1 : Option Addr) (c1 : Nat) (l1 : List ByteArray) (A2 : Option Addr) (c2 : Nat) (l2 : List ByteArray) (A3 : Option Addr) (c3 : Nat) (l3 : List ByteArray) (w : World) (hr1 : Kd.string.C w A1 l1.length l1) (hc1 : l1.length ≤ c1) (hr2 : Kd.string.C w A2 l2.length l2) (hc2 : l2.length ≤ c2) (hr3 : Kd.string.C w A3 l3.length l3) (hc3 : l3.length ≤ c3) (hn : l1.length ≤ 2147483647 ∧ l2.length ≤ 2147483647 ∧ l3.length ≤ 2147483647) (hok1 : ∀ x ∈ l1, (fun s : ByteArray => s.size ≤ maxLen) x) (hok2 : ∀ x ∈ l2, (fun s : ByteArray => s.size ≤ maxLen) x) (hok3 : ∀ x ∈ l3, (fun s : ByteArray => s.size ≤ maxLen) x) :
    Calls Try.prog 41 #[.int .i64 3, .slice A1 l1.length c1, .slice A2 l2.length c2, .slice A3 l3.length c3] w (OpsPost w (canon (l1.filter fun z => decide (z ∈ l2) = false)) (canon (l1)) (canon l2) false) := by
  have hr1 := Aside0.mk hr1
  have hr2 := Aside0.mk hr2
  have hr3 := Aside0.mk hr3
  have hn := Aside0.mk hn
  have hok1 := Aside0.mk hok1
  have hok2 := Aside0.mk hok2
  have hok3 := Aside0.mk hok3
  have hc1 := Aside0.mk hc1
  have hc2 := Aside0.mk hc2
  have hc3 := Aside0.mk hc3
  go_enter Try.func41, Try.ntmps41
  go_wp2_with fail
  refine (new_calls A1 l1 c1 _ hr1.out hc1.out (by have := hn.out; unfold maxLen; omega) hok1.out).mono ?_
  rintro e w1 ⟨rfl, hSx, hB1⟩
  have hzx := Aside0.mk (Su.lt hSx)
  have hSx := Aside0.mk hSx
  have hB1 := Aside0.mk hB1
  go_wp2_with fail
  refine (new_calls A2 l2 c2 _ (Kd.C_below hr2.out hB1.out) hc2.out (by have := hn.out; unfold maxLen; omega) hok2.out).mono ?_
  rintro e w2 ⟨rfl, hSy, hB2⟩
  have hzy := Aside0.mk (Su.lt hSy)
  have hSx := Aside0.mk (S_below hSx.out hB2)
  have hSy := Aside0.mk hSy
  have hB2 := Aside0.mk (below_then hB1.out hB1.out.size hB2)
  go_wp2_with fail
  refine (diff_calls _ _ l1 _ _ l2 _ hSx.out hSy.out (by have := hn.out; omega)).mono ?_
  rintro e w3 ⟨rfl, hSz, hB3⟩
  have hzz := Aside0.mk (Su.lt hSz)
  have hSx := Aside0.mk (S_below hSx.out hB3)
  have hSy := Aside0.mk (S_below hSy.out hB3)
  have hSz := Aside0.mk hSz
  have hB3 := Aside0.mk (below_then hB2.out hB2.out.size hB3)
  have hlx := Aside0.mk (show l1.length ≤ 4294967296 by have := hn.out; omega)
  have hlz := Aside0.mk (Nat.le_trans (List.length_filter_le (fun z => decide (decide (z ∈ l2) = false)) l1) hlx.out)
  go_wp2_with fail
  refine (list_calls _ _ _ _ hSz.out (by have := hn.out; have := hlz.out; omega)).mono ?_
  rintro e w4 ⟨v0, rfl, hv0, hB4⟩
  have hSx := Aside0.mk (S_below hSx.out hB4)
  have hSy := Aside0.mk (S_below hSy.out hB4)
  have hv0 := Aside0.mk hv0
  have hB4 := Aside0.mk hB4
  go_wp2_with fail
  refine (list_calls _ _ _ _ hSx.out (by have := hn.out; have := hlx.out; omega)).mono ?_
  rintro e w5 ⟨v1, rfl, hv1, hB5⟩
  have hSy := Aside0.mk (S_below hSy.out hB5)
  have hv1 := Aside0.mk hv1
  have hB5 := Aside0.mk hB5
  go_wp2_with fail
  refine (list_calls _ _ _ _ hSy.out (by have := hn.out; omega)).mono ?_
  rintro e w6 ⟨v2, rfl, hv2, hB6⟩
  have hv2 := Aside0.mk hv2
  have hB6 := Aside0.mk hB6
  go_wp2_with fail
  refine bodyPost_ret (v := .tuple #[v0, v1, v2, .bool false]) (by simp [results, Try.results41, go_sem]) rfl ?_
  exact three hB3.out hv0.out hB4.out hv1.out hB5.out hv2.out hB6.out

set_option maxHeartbeats 600000 in
set_option maxRecDepth 100000 in
theorem ops4 (A1 : Option Addr) (c1 : Nat) (l1 : List ByteArray) (A2 : Option Addr) (c2 : Nat) (l2 : List ByteArray) (A3 : Option Addr) (c3 : Nat) (l3 : List ByteArray) (w : World) (hr1 : Kd.string.C w A1 l1.length l1) (hc1 : l1.length ≤ c1) (hr2 : Kd.string.C w A2 l2.length l2) (hc2 : l2.length ≤ c2) (hr3 : Kd.string.C w A3 l3.length l3) (hc3 : l3.length ≤ c3) (hn : l1.length ≤ 2147483647 ∧ l2.length ≤ 2147483647 ∧ l3.length ≤ 2147483647) (hok1 : ∀ x ∈ l1, (fun s : ByteArray => s.size ≤ maxLen) x) (hok2 : ∀ x ∈ l2, (fun s : ByteArray => s.size ≤ maxLen) x) (hok3 : ∀ x ∈ l3, (fun s : ByteArray => s.size ≤ maxLen) x) :
    Calls Try.prog 41 #[.int .i64 4, .slice A1 l1.length c1, .slice A2 l2.length c2, .slice A3 l3.length c3] w (OpsPost w (canon ((l1.filter fun z => decide (z ∈ l2) = false) ++ (l2.filter fun z => decide (z ∈ l1) = false))) (canon (l1)) (canon l2) false) := by
  have hr1 := Aside0.mk hr1
  have hr2 := Aside0.mk hr2
  have hr3 := Aside0.mk hr3
  have hn := Aside0.mk hn
  have hok1 := Aside0.mk hok1
  have hok2 := Aside0.mk hok2
  have hok3 := Aside0.mk hok3
  have hc1 := Aside0.mk hc1
  have hc2 := Aside0.mk hc2
  have hc3 := Aside0.mk hc3
  go_enter Try.func41, Try.ntmps41
  go_wp2_with fail
  refine (new_calls A1 l1 c1 _ hr1.out hc1.out (by have := hn.out; unfold maxLen; omega) hok1.out).mono ?_
  rintro e w1 ⟨rfl, hSx, hB1⟩
  have hzx := Aside0.mk (Su.lt hSx)
  have hSx := Aside0.mk hSx
  have hB1 := Aside0.mk hB1
  go_wp2_with fail
  refine (new_calls A2 l2 c2 _ (Kd.C_below hr2.out hB1.out) hc2.out (by have := hn.out; unfold maxLen; omega) hok2.out).mono ?_
  rintro e w2 ⟨rfl, hSy, hB2⟩
  have hzy := Aside0.mk (Su.lt hSy)
  have hSx := Aside0.mk (S_below hSx.out hB2)
  have hSy := Aside0.mk hSy
  have hB2 := Aside0.mk (below_then hB1.out hB1.out.size hB2)
  go_wp2_with fail
  refine (sym_calls _ _ l1 _ _ l2 _ hSx.out hSy.out (by have := hn.out; omega) (by have := hn.out; omega)).mono ?_
  rintro e w3 ⟨bz, rfl, hSz, hB3, _⟩
  have hzz := Aside0.mk (Su.lt hSz)
  have hSx := Aside0.mk (S_below hSx.out hB3)
  have hSy := Aside0.mk (S_below hSy.out hB3)
  have hSz := Aside0.mk hSz
  have hB3 := Aside0.mk (below_then hB2.out hB2.out.size hB3)
  have hlx := Aside0.mk (show l1.length ≤ 4294967296 by have := hn.out; omega)
  have hlz := Aside0.mk (show ((l1.filter fun z => decide (z ∈ l2) = false) ++ (l2.filter fun z => decide (z ∈ l1) = false)).length ≤ 4294967296 by
    rw [List.length_append]
    have h1 := List.length_filter_le (fun z => decide (decide (z ∈ l2) = false)) l1
    have h2 := List.length_filter_le (fun z => decide (decide (z ∈ l1) = false)) l2
    have := hn.out; omega)
  go_wp2_with fail
  refine (list_calls _ _ _ _ hSz.out (by have := hn.out; have := hlz.out; omega)).mono ?_
  rintro e w4 ⟨v0, rfl, hv0, hB4⟩
  have hSx := Aside0.mk (S_below hSx.out hB4)
  have hSy := Aside0.mk (S_below hSy.out hB4)
  have hv0 := Aside0.mk hv0
  have hB4 := Aside0.mk hB4
  go_wp2_with fail
  refine (list_calls _ _ _ _ hSx.out (by have := hn.out; have := hlx.out; omega)).mono ?_
  rintro e w5 ⟨v1, rfl, hv1, hB5⟩
  have hSy := Aside0.mk (S_below hSy.out hB5)
  have hv1 := Aside0.mk hv1
  have hB5 := Aside0.mk hB5
  go_wp2_with fail
  refine (list_calls _ _ _ _ hSy.out (by have := hn.out; omega)).mono ?_
  rintro e w6 ⟨v2, rfl, hv2, hB6⟩
  have hv2 := Aside0.mk hv2
  have hB6 := Aside0.mk hB6
  go_wp2_with fail
  refine bodyPost_ret (v := .tuple #[v0, v1, v2, .bool false]) (by simp [results, Try.results41, go_sem]) rfl ?_
  exact three hB3.out hv0.out hB4.out hv1.out hB5.out hv2.out hB6.out
abbrev SB (w : World) (b N : Nat) (l : List ByteArray) : Prop := SetGenB.Su Try.prog 4 9 (fun s : ByteArray => Lit.string s.data.toList) (fun s : ByteArray => s.size ≤ maxLen) w b N l
abbrev GB (w : World) (b r N : Nat) (l done : List ByteArray) : Prop := SetGenB.Rg Try.prog 4 9 (fun s : ByteArray => Lit.string s.data.toList) (fun s : ByteArray => s.size ≤ maxLen) w b r N l done
theorem add_roundB {wr w2 w4 w : World} {b r bn N : Nat} {l done : List ByteArray} (hG2 : GB w2 b r N l done) (hlt : w2.rangeLeft b r < wr.rangeLeft b r)
    (hg2 : wr.grownBy w2 (some r)) (hgg : w2.grownBy w4 (some bn)) (hb : b < bn) (hbn : w.heap.size ≤ bn) (hr : bn < r) (hB : Below w.heap.size w wr) :
    GB w4 b r N l done ∧ w4.rangeLeft b r < wr.rangeLeft b r ∧ Below w.heap.size w w4 := by
  have n1 : some b ≠ some bn := by simp; omega
  have n2 : some r ≠ some bn := by simp; omega
  refine ⟨hG2.kept hgg n1 n2, by rw [hG2.left hgg n1 n2]; exact hlt, ?_⟩
  have h2 : Below w.heap.size w w2 := Below.grown hB hg2 hB.size (fun j hj => by cases hj; omega)
  exact Below.grown h2 hgg h2.size (fun j hj => by cases hj; exact hbn)
set_option maxHeartbeats 600000 in
set_option maxRecDepth 100000 in
theorem keyset_calls (b N : Nat) (l : List ByteArray) (w : World) (hS : SB w b N l) (hl : l.length ≤ 8589934592) :
    Calls Try.prog 83 #[.map (some b)] w fun e w' => e = .returned (.map (some w.heap.size)) ∧ S w' w.heap.size l.length l ∧ Below w.heap.size w w' := by
  have hSx := Aside0.mk hS
  have hlx := Aside0.mk hl
  have hbb := Aside0.mk hS.lt
  clear hS hl
  go_enter Try.func83, Try.ntmps83
  go_wp2_with (first
    | (at_len; refine SetGenB.wp_len _ kk rfl _ 88 rfl 4 Try.underlying88 b N l rfl hSx.out ?_; intro xs hxn hxm hxb; have hxn := Aside0.mk hxn; have hxm := Aside0.mk hxm; have hxb := Aside0.mk hxb)
    | (refine wp_makeMap (α := ByteArray) (k := 9) (lit := (fun s : ByteArray => Lit.string s.data.toList)) (OK := (fun s : ByteArray => s.size ≤ maxLen)) _ rfl 81 _ rfl 105 Try.underlying81 _ rfl ?_; intro w1 hSw1 hgw1 hzw1; have hSw1 := Aside0.mk hSw1; have hgw1 := Aside0.mk hgw1; have hzw1 := Aside0.mk hzw1)
    | (at_range; refine SetGenB.wp_range _ kk rfl _ 88 rfl 4 Try.underlying88 b N l rfl (hSx.out.kept hgw1.out (by simp)) ?_; intro w2 hGw2 hgw2 hzw2; have hGw2 := Aside0.mk hGw2; have hgw2 := Aside0.mk hgw2; have hzw2 := Aside0.mk hzw2)
    | go_in)
  go_frame
  go_loopw [4] (fun _ wr => ∃ done, GB wr b w1.heap.size N l done ∧ S wr w.heap.size done.length done ∧ Below w.heap.size w wr) (fun _ wr => wr.rangeLeft b w1.heap.size)
  case atStart => exact ⟨[], hGw2.out, hSw1.out.kept hgw2.out (by simp), Below.grown (Below.grown (Below.refl _ _) hgw1.out (Nat.le_refl _) (fun j hj => by cases hj)) hgw2.out (Nat.le_of_lt hzw1.out) (fun j hj => by cases hj)⟩
  case round =>
    obtain ⟨done, hG, hSd, hB⟩ := hrel
    have hG := Aside0.mk hG
    have hSd := Aside0.mk hSd
    have hB := Aside0.mk hB
    go_wp2_with (first
      | (at_next; refine SetGenB.wp_next _ kk rfl _ rfl b w1.heap.size N l done rfl hG.out ?_ ?_)
      | go_in)
    · intro hall
      have hall := Aside0.mk hall
      go_wp2
      go_ret
      obtain ⟨n, D, left, cnt, _, _, _, _, hn, hsub, _⟩ := hG.out
      exact ⟨rfl, hSd.out.congr (nodup_length hn hsub) (fun x => ⟨hsub x, hall.out x⟩), hB.out⟩
    · intro x c w3 hok hxl hxd hG3 hlt hg3 hs3 hen
      clear hs3
      have hlen := hG3.length
      rw [List.length_append, List.length_singleton] at hlen
      have hlen := (show done.length + 1 < maxLen by have := hlx.out; unfold maxLen; omega)
      have hSi := Aside0.mk (Su.kept (Su.kept hSd.out hg3 (by have := hzw1.out; simp; omega)) (World.grownBy_alloc w3 (.cells #[Value.string x] 9) none) (by simp))
      have hci := Aside0.mk (cell_new w3 (Value.string x) 9)
      have hG3 := Aside0.mk hG3
      have hlt := Aside0.mk hlt
      have hg3 := Aside0.mk hg3
      clear hxl hxd
      go_wp2_with (first
        | (go_at_call 76; refine (insert_one w.heap.size done.length done _ x _ hSi.out hci.out (by omega) hok).mono ?_; rintro e w4 ⟨rfl, hSw4, hgw4⟩; have hSw4 := Aside0.mk hSw4; have hgw4 := Aside0.mk hgw4)
        | go_in)
      obtain ⟨r1, r2, r3⟩ := add_roundB hG3.out hlt.out hg3.out (alloc_then hgw4.out) hbb.out (Nat.le_refl _) hzw1.out hB.out
      go_roundw
      case rel => exact ⟨done ++ [x], r1, by rw [List.length_append]; exact hSw4.out, r3⟩
      case measure => exact r2

set_option maxHeartbeats 600000 in
set_option maxRecDepth 100000 in
theorem ops5 (A1 : Option Addr) (c1 : Nat) (l1 : List ByteArray) (A2 : Option Addr) (c2 : Nat) (l2 : List ByteArray) (A3 : Option Addr) (c3 : Nat) (l3 : List ByteArray) (w : World) (hr1 : Kd.string.C w A1 l1.length l1) (hc1 : l1.length ≤ c1) (hr2 : Kd.string.C w A2 l2.length l2) (hc2 : l2.length ≤ c2) (hr3 : Kd.string.C w A3 l3.length l3) (hc3 : l3.length ≤ c3) (hn : l1.length ≤ 2147483647 ∧ l2.length ≤ 2147483647 ∧ l3.length ≤ 2147483647) (hok1 : ∀ x ∈ l1, (fun s : ByteArray => s.size ≤ maxLen) x) (hok2 : ∀ x ∈ l2, (fun s : ByteArray => s.size ≤ maxLen) x) (hok3 : ∀ x ∈ l3, (fun s : ByteArray => s.size ≤ maxLen) x) :
    Calls Try.prog 41 #[.int .i64 5, .slice A1 l1.length c1, .slice A2 l2.length c2, .slice A3 l3.length c3] w (OpsPost w (canon (l1 ++ l3)) (canon (l1 ++ l3)) (canon l2) false) := by
  have hr1 := Aside0.mk hr1
  have hr2 := Aside0.mk hr2
  have hr3 := Aside0.mk hr3
  have hn := Aside0.mk hn
  have hok1 := Aside0.mk hok1
  have hok2 := Aside0.mk hok2
  have hok3 := Aside0.mk hok3
  have hc1 := Aside0.mk hc1
  have hc2 := Aside0.mk hc2
  have hc3 := Aside0.mk hc3
  go_enter Try.func41, Try.ntmps41
  go_wp2_with fail
  refine (new_calls A1 l1 c1 _ hr1.out hc1.out (by have := hn.out; unfold maxLen; omega) hok1.out).mono ?_
  rintro e w1 ⟨rfl, hSx, hB1⟩
  have hzx := Aside0.mk (Su.lt hSx)
  have hSx := Aside0.mk hSx
  have hB1 := Aside0.mk hB1
  go_wp2_with fail
  refine (new_calls A2 l2 c2 _ (Kd.C_below hr2.out hB1.out) hc2.out (by have := hn.out; unfold maxLen; omega) hok2.out).mono ?_
  rintro e w2 ⟨rfl, hSy, hB2⟩
  have hzy := Aside0.mk (Su.lt hSy)
  have hSx := Aside0.mk (S_below hSx.out hB2)
  have hSy := Aside0.mk hSy
  have hB2 := Aside0.mk (below_then hB1.out hB1.out.size hB2)
  go_wp2_with fail
  refine (insert_calls _ _ l1 A3 l3 c3 _ hSx.out (Kd.C_below hr3.out hB2.out) hc3.out (by have := hn.out; unfold maxLen; omega) hok3.out).mono ?_
  rintro e w3 ⟨rfl, hSz, hg3⟩
  have hSy := Aside0.mk (Su.kept hSy.out hg3 (by have := hzx.out; simp; omega))
  have hSx := Aside0.mk hSz
  have hSz := Aside0.mk hSz
  have hB3 := Aside0.mk (Below.grown hB2.out hg3 hB2.out.size (fun j hj => by cases hj; exact Nat.le_refl _))
  have hlx := Aside0.mk (show (l1 ++ l3).length ≤ 4294967296 by simp; have := hn.out; omega)
  have hlz := Aside0.mk (show (l1 ++ l3).length ≤ 4294967296 by simp; have := hn.out; omega)
  go_wp2_with fail
  refine (list_calls _ _ _ _ hSz.out (by have := hn.out; have := hlz.out; omega)).mono ?_
  rintro e w4 ⟨v0, rfl, hv0, hB4⟩
  have hSx := Aside0.mk (S_below hSx.out hB4)
  have hSy := Aside0.mk (S_below hSy.out hB4)
  have hv0 := Aside0.mk hv0
  have hB4 := Aside0.mk hB4
  go_wp2_with fail
  refine (list_calls _ _ _ _ hSx.out (by have := hn.out; have := hlx.out; omega)).mono ?_
  rintro e w5 ⟨v1, rfl, hv1, hB5⟩
  have hSy := Aside0.mk (S_below hSy.out hB5)
  have hv1 := Aside0.mk hv1
  have hB5 := Aside0.mk hB5
  go_wp2_with fail
  refine (list_calls _ _ _ _ hSy.out (by have := hn.out; omega)).mono ?_
  rintro e w6 ⟨v2, rfl, hv2, hB6⟩
  have hv2 := Aside0.mk hv2
  have hB6 := Aside0.mk hB6
  go_wp2_with fail
  refine bodyPost_ret (v := .tuple #[v0, v1, v2, .bool false]) (by simp [results, Try.results41, go_sem]) rfl ?_
  exact three hB3.out hv0.out hB4.out hv1.out hB5.out hv2.out hB6.out

set_option maxHeartbeats 600000 in
set_option maxRecDepth 100000 in
theorem ops6 (A1 : Option Addr) (c1 : Nat) (l1 : List ByteArray) (A2 : Option Addr) (c2 : Nat) (l2 : List ByteArray) (A3 : Option Addr) (c3 : Nat) (l3 : List ByteArray) (w : World) (hr1 : Kd.string.C w A1 l1.length l1) (hc1 : l1.length ≤ c1) (hr2 : Kd.string.C w A2 l2.length l2) (hc2 : l2.length ≤ c2) (hr3 : Kd.string.C w A3 l3.length l3) (hc3 : l3.length ≤ c3) (hn : l1.length ≤ 2147483647 ∧ l2.length ≤ 2147483647 ∧ l3.length ≤ 2147483647) (hok1 : ∀ x ∈ l1, (fun s : ByteArray => s.size ≤ maxLen) x) (hok2 : ∀ x ∈ l2, (fun s : ByteArray => s.size ≤ maxLen) x) (hok3 : ∀ x ∈ l3, (fun s : ByteArray => s.size ≤ maxLen) x) :
    Calls Try.prog 41 #[.int .i64 6, .slice A1 l1.length c1, .slice A2 l2.length c2, .slice A3 l3.length c3] w (OpsPost w (canon (l1.filter fun z => decide (z ∈ l3) = false)) (canon (l1.filter fun z => decide (z ∈ l3) = false)) (canon l2) false) := by
  have hr1 := Aside0.mk hr1
  have hr2 := Aside0.mk hr2
  have hr3 := Aside0.mk hr3
  have hn := Aside0.mk hn
  have hok1 := Aside0.mk hok1
  have hok2 := Aside0.mk hok2
  have hok3 := Aside0.mk hok3
  have hc1 := Aside0.mk hc1
  have hc2 := Aside0.mk hc2
  have hc3 := Aside0.mk hc3
  go_enter Try.func41, Try.ntmps41
  go_wp2_with fail
  refine (new_calls A1 l1 c1 _ hr1.out hc1.out (by have := hn.out; unfold maxLen; omega) hok1.out).mono ?_
  rintro e w1 ⟨rfl, hSx, hB1⟩
  have hzx := Aside0.mk (Su.lt hSx)
  have hSx := Aside0.mk hSx
  have hB1 := Aside0.mk hB1
  go_wp2_with fail
  refine (new_calls A2 l2 c2 _ (Kd.C_below hr2.out hB1.out) hc2.out (by have := hn.out; unfold maxLen; omega) hok2.out).mono ?_
  rintro e w2 ⟨rfl, hSy, hB2⟩
  have hzy := Aside0.mk (Su.lt hSy)
  have hSx := Aside0.mk (S_below hSx.out hB2)
  have hSy := Aside0.mk hSy
  have hB2 := Aside0.mk (below_then hB1.out hB1.out.size hB2)
  go_wp2_with fail
  refine (delete_calls _ _ l1 A3 l3 c3 _ hSx.out (Kd.C_below hr3.out hB2.out) hok3.out).mono ?_
  rintro e w3 ⟨rfl, hSz, hg3⟩
  have hSy := Aside0.mk (Su.kept hSy.out hg3 (by have := hzx.out; simp; omega))
  have hSx := Aside0.mk hSz
  have hSz := Aside0.mk hSz
  have hB3 := Aside0.mk (Below.grown hB2.out hg3 hB2.out.size (fun j hj => by cases hj; exact Nat.le_refl _))
  have hlx := Aside0.mk (Nat.le_trans (List.length_filter_le (fun z => decide (decide (z ∈ l3) = false)) l1) (show l1.length ≤ 4294967296 by have := hn.out; omega))
  have hlz := hlx
  go_wp2_with fail
  refine (list_calls _ _ _ _ hSz.out (by have := hn.out; have := hlz.out; omega)).mono ?_
  rintro e w4 ⟨v0, rfl, hv0, hB4⟩
  have hSx := Aside0.mk (S_below hSx.out hB4)
  have hSy := Aside0.mk (S_below hSy.out hB4)
  have hv0 := Aside0.mk hv0
  have hB4 := Aside0.mk hB4
  go_wp2_with fail
  refine (list_calls _ _ _ _ hSx.out (by have := hn.out; have := hlx.out; omega)).mono ?_
  rintro e w5 ⟨v1, rfl, hv1, hB5⟩
  have hSy := Aside0.mk (S_below hSy.out hB5)
  have hv1 := Aside0.mk hv1
  have hB5 := Aside0.mk hB5
  go_wp2_with fail
  refine (list_calls _ _ _ _ hSy.out (by have := hn.out; omega)).mono ?_
  rintro e w6 ⟨v2, rfl, hv2, hB6⟩
  have hv2 := Aside0.mk hv2
  have hB6 := Aside0.mk hB6
  go_wp2_with fail
  refine bodyPost_ret (v := .tuple #[v0, v1, v2, .bool false]) (by simp [results, Try.results41, go_sem]) rfl ?_
  exact three hB3.out hv0.out hB4.out hv1.out hB5.out hv2.out hB6.out

set_option maxHeartbeats 600000 in
set_option maxRecDepth 100000 in
theorem ops13 (A1 : Option Addr) (c1 : Nat) (l1 : List ByteArray) (A2 : Option Addr) (c2 : Nat) (l2 : List ByteArray) (A3 : Option Addr) (c3 : Nat) (l3 : List ByteArray) (w : World) (hr1 : Kd.string.C w A1 l1.length l1) (hc1 : l1.length ≤ c1) (hr2 : Kd.string.C w A2 l2.length l2) (hc2 : l2.length ≤ c2) (hr3 : Kd.string.C w A3 l3.length l3) (hc3 : l3.length ≤ c3) (hn : l1.length ≤ 2147483647 ∧ l2.length ≤ 2147483647 ∧ l3.length ≤ 2147483647) (hok1 : ∀ x ∈ l1, (fun s : ByteArray => s.size ≤ maxLen) x) (hok2 : ∀ x ∈ l2, (fun s : ByteArray => s.size ≤ maxLen) x) (hok3 : ∀ x ∈ l3, (fun s : ByteArray => s.size ≤ maxLen) x) :
    Calls Try.prog 41 #[.int .i64 13, .slice A1 l1.length c1, .slice A2 l2.length c2, .slice A3 l3.length c3] w (OpsPost w (canon ([])) (canon ([])) (canon l2) false) := by
  have hr1 := Aside0.mk hr1
  have hr2 := Aside0.mk hr2
  have hr3 := Aside0.mk hr3
  have hn := Aside0.mk hn
  have hok1 := Aside0.mk hok1
  have hok2 := Aside0.mk hok2
  have hok3 := Aside0.mk hok3
  have hc1 := Aside0.mk hc1
  have hc2 := Aside0.mk hc2
  have hc3 := Aside0.mk hc3
  go_enter Try.func41, Try.ntmps41
  go_wp2_with fail
  refine (new_calls A1 l1 c1 _ hr1.out hc1.out (by have := hn.out; unfold maxLen; omega) hok1.out).mono ?_
  rintro e w1 ⟨rfl, hSx, hB1⟩
  have hzx := Aside0.mk (Su.lt hSx)
  have hSx := Aside0.mk hSx
  have hB1 := Aside0.mk hB1
  go_wp2_with fail
  refine (new_calls A2 l2 c2 _ (Kd.C_below hr2.out hB1.out) hc2.out (by have := hn.out; unfold maxLen; omega) hok2.out).mono ?_
  rintro e w2 ⟨rfl, hSy, hB2⟩
  have hzy := Aside0.mk (Su.lt hSy)
  have hSx := Aside0.mk (S_below hSx.out hB2)
  have hSy := Aside0.mk hSy
  have hB2 := Aside0.mk (below_then hB1.out hB1.out.size hB2)
  go_wp2_with fail
  refine (clear_calls _ _ l1 _ hSx.out).mono ?_
  rintro e w3 ⟨rfl, hSz, hg3⟩
  have hSy := Aside0.mk (Su.kept hSy.out hg3 (by have := hzx.out; simp; omega))
  have hSx := Aside0.mk hSz
  have hSz := Aside0.mk hSz
  have hB3 := Aside0.mk (Below.grown hB2.out hg3 hB2.out.size (fun j hj => by cases hj; exact Nat.le_refl _))
  have hlx := Aside0.mk (show ([] : List ByteArray).length ≤ 4294967296 by simp)
  have hlz := hlx
  go_wp2_with fail
  refine (list_calls _ _ _ _ hSz.out (by have := hn.out; have := hlz.out; omega)).mono ?_
  rintro e w4 ⟨v0, rfl, hv0, hB4⟩
  have hSx := Aside0.mk (S_below hSx.out hB4)
  have hSy := Aside0.mk (S_below hSy.out hB4)
  have hv0 := Aside0.mk hv0
  have hB4 := Aside0.mk hB4
  go_wp2_with fail
  refine (list_calls _ _ _ _ hSx.out (by have := hn.out; have := hlx.out; omega)).mono ?_
  rintro e w5 ⟨v1, rfl, hv1, hB5⟩
  have hSy := Aside0.mk (S_below hSy.out hB5)
  have hv1 := Aside0.mk hv1
  have hB5 := Aside0.mk hB5
  go_wp2_with fail
  refine (list_calls _ _ _ _ hSy.out (by have := hn.out; omega)).mono ?_
  rintro e w6 ⟨v2, rfl, hv2, hB6⟩
  have hv2 := Aside0.mk hv2
  have hB6 := Aside0.mk hB6
  go_wp2_with fail
  refine bodyPost_ret (v := .tuple #[v0, v1, v2, .bool false]) (by simp [results, Try.results41, go_sem]) rfl ?_
  exact three hB3.out hv0.out hB4.out hv1.out hB5.out hv2.out hB6.out

set_option maxHeartbeats 600000 in
set_option maxRecDepth 100000 in
theorem ops7 (A1 : Option Addr) (c1 : Nat) (l1 : List ByteArray) (A2 : Option Addr) (c2 : Nat) (l2 : List ByteArray) (A3 : Option Addr) (c3 : Nat) (l3 : List ByteArray) (w : World) (hr1 : Kd.string.C w A1 l1.length l1) (hc1 : l1.length ≤ c1) (hr2 : Kd.string.C w A2 l2.length l2) (hc2 : l2.length ≤ c2) (hr3 : Kd.string.C w A3 l3.length l3) (hc3 : l3.length ≤ c3) (hn : l1.length ≤ 2147483647 ∧ l2.length ≤ 2147483647 ∧ l3.length ≤ 2147483647) (hok1 : ∀ x ∈ l1, (fun s : ByteArray => s.size ≤ maxLen) x) (hok2 : ∀ x ∈ l2, (fun s : ByteArray => s.size ≤ maxLen) x) (hok3 : ∀ x ∈ l3, (fun s : ByteArray => s.size ≤ maxLen) x) :
    Calls Try.prog 41 #[.int .i64 7, .slice A1 l1.length c1, .slice A2 l2.length c2, .slice A3 l3.length c3] w (OpsPost w (canon []) (canon l1) (canon l2) (l3.all fun x => decide (x ∈ l1))) := by
  obtain ⟨res, hres⟩ : ∃ r, r = (l3.all fun x => decide (x ∈ l1)) := ⟨_, rfl⟩
  rw [← hres]
  have hr1 := Aside0.mk hr1
  have hr2 := Aside0.mk hr2
  have hr3 := Aside0.mk hr3
  have hn := Aside0.mk hn
  have hok1 := Aside0.mk hok1
  have hok2 := Aside0.mk hok2
  have hok3 := Aside0.mk hok3
  have hc1 := Aside0.mk hc1
  have hc2 := Aside0.mk hc2
  have hc3 := Aside0.mk hc3
  have hresx := Aside0.mk hres
  clear hres
  go_enter Try.func41, Try.ntmps41
  go_wp2_with fail
  refine (new_calls A1 l1 c1 _ hr1.out hc1.out (by have := hn.out; unfold maxLen; omega) hok1.out).mono ?_
  rintro e w1 ⟨rfl, hSx, hB1⟩
  have hzx := Aside0.mk (Su.lt hSx)
  have hSx := Aside0.mk hSx
  have hB1 := Aside0.mk hB1
  go_wp2_with fail
  refine (new_calls A2 l2 c2 _ (Kd.C_below hr2.out hB1.out) hc2.out (by have := hn.out; unfold maxLen; omega) hok2.out).mono ?_
  rintro e w2 ⟨rfl, hSy, hB2⟩
  have hzy := Aside0.mk (Su.lt hSy)
  have hSx := Aside0.mk (S_below hSx.out hB2)
  have hSy := Aside0.mk hSy
  have hB2 := Aside0.mk (below_then hB1.out hB1.out.size hB2)
  go_wp2_with fail
  have hcall := (hasall_calls _ _ l1 A3 l3 c3 _ hSx.out (Kd.C_below hr3.out hB2.out) hok3.out)
  rw [← hresx.out] at hcall
  refine (hcall).mono ?_
  clear hcall
  rintro e w3 ⟨rfl, hB3⟩
  have hSx := Aside0.mk (S_below hSx.out hB3)
  have hSy := Aside0.mk (S_below hSy.out hB3)
  have hB3 := Aside0.mk (below_then hB2.out hB2.out.size hB3)
  have hlx := Aside0.mk (show l1.length ≤ 4294967296 by have := hn.out; omega)
  go_wp2_with fail
  refine (list_nil _).mono ?_
  rintro e w4 ⟨v0, rfl, hv0, hB4⟩
  have hSx := Aside0.mk (S_below hSx.out hB4)
  have hSy := Aside0.mk (S_below hSy.out hB4)
  have hv0 := Aside0.mk hv0
  have hB4 := Aside0.mk hB4
  go_wp2_with fail
  refine (list_calls _ _ _ _ hSx.out (by have := hn.out; have := hlx.out; omega)).mono ?_
  rintro e w5 ⟨v1, rfl, hv1, hB5⟩
  have hSy := Aside0.mk (S_below hSy.out hB5)
  have hv1 := Aside0.mk hv1
  have hB5 := Aside0.mk hB5
  go_wp2_with fail
  refine (list_calls _ _ _ _ hSy.out (by have := hn.out; omega)).mono ?_
  rintro e w6 ⟨v2, rfl, hv2, hB6⟩
  have hv2 := Aside0.mk hv2
  have hB6 := Aside0.mk hB6
  go_wp2_with fail
  refine bodyPost_ret (v := .tuple #[v0, v1, v2, .bool res]) (by simp [results, Try.results41, go_sem]) rfl ?_
  exact three hB3.out hv0.out hB4.out hv1.out hB5.out hv2.out hB6.out

set_option maxHeartbeats 600000 in
set_option maxRecDepth 100000 in
theorem ops8 (A1 : Option Addr) (c1 : Nat) (l1 : List ByteArray) (A2 : Option Addr) (c2 : Nat) (l2 : List ByteArray) (A3 : Option Addr) (c3 : Nat) (l3 : List ByteArray) (w : World) (hr1 : Kd.string.C w A1 l1.length l1) (hc1 : l1.length ≤ c1) (hr2 : Kd.string.C w A2 l2.length l2) (hc2 : l2.length ≤ c2) (hr3 : Kd.string.C w A3 l3.length l3) (hc3 : l3.length ≤ c3) (hn : l1.length ≤ 2147483647 ∧ l2.length ≤ 2147483647 ∧ l3.length ≤ 2147483647) (hok1 : ∀ x ∈ l1, (fun s : ByteArray => s.size ≤ maxLen) x) (hok2 : ∀ x ∈ l2, (fun s : ByteArray => s.size ≤ maxLen) x) (hok3 : ∀ x ∈ l3, (fun s : ByteArray => s.size ≤ maxLen) x) :
    Calls Try.prog 41 #[.int .i64 8, .slice A1 l1.length c1, .slice A2 l2.length c2, .slice A3 l3.length c3] w (OpsPost w (canon []) (canon l1) (canon l2) (l3.any fun x => decide (x ∈ l1))) := by
  obtain ⟨res, hres⟩ : ∃ r, r = (l3.any fun x => decide (x ∈ l1)) := ⟨_, rfl⟩
  rw [← hres]
  have hr1 := Aside0.mk hr1
  have hr2 := Aside0.mk hr2
  have hr3 := Aside0.mk hr3
  have hn := Aside0.mk hn
  have hok1 := Aside0.mk hok1
  have hok2 := Aside0.mk hok2
  have hok3 := Aside0.mk hok3
  have hc1 := Aside0.mk hc1
  have hc2 := Aside0.mk hc2
  have hc3 := Aside0.mk hc3
  have hresx := Aside0.mk hres
  clear hres
  go_enter Try.func41, Try.ntmps41
  go_wp2_with fail
  refine (new_calls A1 l1 c1 _ hr1.out hc1.out (by have := hn.out; unfold maxLen; omega) hok1.out).mono ?_
  rintro e w1 ⟨rfl, hSx, hB1⟩
  have hzx := Aside0.mk (Su.lt hSx)
  have hSx := Aside0.mk hSx
  have hB1 := Aside0.mk hB1
  go_wp2_with fail
  refine (new_calls A2 l2 c2 _ (Kd.C_below hr2.out hB1.out) hc2.out (by have := hn.out; unfold maxLen; omega) hok2.out).mono ?_
  rintro e w2 ⟨rfl, hSy, hB2⟩
  have hzy := Aside0.mk (Su.lt hSy)
  have hSx := Aside0.mk (S_below hSx.out hB2)
  have hSy := Aside0.mk hSy
  have hB2 := Aside0.mk (below_then hB1.out hB1.out.size hB2)
  go_wp2_with fail
  have hcall := (hasany_calls _ _ l1 A3 l3 c3 _ hSx.out (Kd.C_below hr3.out hB2.out) hok3.out)
  rw [← hresx.out] at hcall
  refine (hcall).mono ?_
  clear hcall
  rintro e w3 ⟨rfl, hB3⟩
  have hSx := Aside0.mk (S_below hSx.out hB3)
  have hSy := Aside0.mk (S_below hSy.out hB3)
  have hB3 := Aside0.mk (below_then hB2.out hB2.out.size hB3)
  have hlx := Aside0.mk (show l1.length ≤ 4294967296 by have := hn.out; omega)
  go_wp2_with fail
  refine (list_nil _).mono ?_
  rintro e w4 ⟨v0, rfl, hv0, hB4⟩
  have hSx := Aside0.mk (S_below hSx.out hB4)
  have hSy := Aside0.mk (S_below hSy.out hB4)
  have hv0 := Aside0.mk hv0
  have hB4 := Aside0.mk hB4
  go_wp2_with fail
  refine (list_calls _ _ _ _ hSx.out (by have := hn.out; have := hlx.out; omega)).mono ?_
  rintro e w5 ⟨v1, rfl, hv1, hB5⟩
  have hSy := Aside0.mk (S_below hSy.out hB5)
  have hv1 := Aside0.mk hv1
  have hB5 := Aside0.mk hB5
  go_wp2_with fail
  refine (list_calls _ _ _ _ hSy.out (by have := hn.out; omega)).mono ?_
  rintro e w6 ⟨v2, rfl, hv2, hB6⟩
  have hv2 := Aside0.mk hv2
  have hB6 := Aside0.mk hB6
  go_wp2_with fail
  refine bodyPost_ret (v := .tuple #[v0, v1, v2, .bool res]) (by simp [results, Try.results41, go_sem]) rfl ?_
  exact three hB3.out hv0.out hB4.out hv1.out hB5.out hv2.out hB6.out

set_option maxHeartbeats 600000 in
set_option maxRecDepth 100000 in
theorem ops9 (A1 : Option Addr) (c1 : Nat) (l1 : List ByteArray) (A2 : Option Addr) (c2 : Nat) (l2 : List ByteArray) (A3 : Option Addr) (c3 : Nat) (l3 : List ByteArray) (w : World) (hr1 : Kd.string.C w A1 l1.length l1) (hc1 : l1.length ≤ c1) (hr2 : Kd.string.C w A2 l2.length l2) (hc2 : l2.length ≤ c2) (hr3 : Kd.string.C w A3 l3.length l3) (hc3 : l3.length ≤ c3) (hn : l1.length ≤ 2147483647 ∧ l2.length ≤ 2147483647 ∧ l3.length ≤ 2147483647) (hok1 : ∀ x ∈ l1, (fun s : ByteArray => s.size ≤ maxLen) x) (hok2 : ∀ x ∈ l2, (fun s : ByteArray => s.size ≤ maxLen) x) (hok3 : ∀ x ∈ l3, (fun s : ByteArray => s.size ≤ maxLen) x) :
    Calls Try.prog 41 #[.int .i64 9, .slice A1 l1.length c1, .slice A2 l2.length c2, .slice A3 l3.length c3] w (OpsPost w (canon []) (canon l1) (canon l2) (l2.all fun x => decide (x ∈ l1))) := by
  obtain ⟨res, hres⟩ : ∃ r, r = (l2.all fun x => decide (x ∈ l1)) := ⟨_, rfl⟩
  rw [← hres]
  have hr1 := Aside0.mk hr1
  have hr2 := Aside0.mk hr2
  have hr3 := Aside0.mk hr3
  have hn := Aside0.mk hn
  have hok1 := Aside0.mk hok1
  have hok2 := Aside0.mk hok2
  have hok3 := Aside0.mk hok3
  have hc1 := Aside0.mk hc1
  have hc2 := Aside0.mk hc2
  have hc3 := Aside0.mk hc3
  have hresx := Aside0.mk hres
  clear hres
  go_enter Try.func41, Try.ntmps41
  go_wp2_with fail
  refine (new_calls A1 l1 c1 _ hr1.out hc1.out (by have := hn.out; unfold maxLen; omega) hok1.out).mono ?_
  rintro e w1 ⟨rfl, hSx, hB1⟩
  have hzx := Aside0.mk (Su.lt hSx)
  have hSx := Aside0.mk hSx
  have hB1 := Aside0.mk hB1
  go_wp2_with fail
  refine (new_calls A2 l2 c2 _ (Kd.C_below hr2.out hB1.out) hc2.out (by have := hn.out; unfold maxLen; omega) hok2.out).mono ?_
  rintro e w2 ⟨rfl, hSy, hB2⟩
  have hzy := Aside0.mk (Su.lt hSy)
  have hSx := Aside0.mk (S_below hSx.out hB2)
  have hSy := Aside0.mk hSy
  have hB2 := Aside0.mk (below_then hB1.out hB1.out.size hB2)
  go_wp2_with fail
  have hcall := (super_calls _ _ l1 _ _ l2 _ hSx.out hSy.out)
  rw [← hresx.out] at hcall
  refine (hcall).mono ?_
  clear hcall
  rintro e w3 ⟨rfl, hB3⟩
  have hSx := Aside0.mk (S_below hSx.out hB3)
  have hSy := Aside0.mk (S_below hSy.out hB3)
  have hB3 := Aside0.mk (below_then hB2.out hB2.out.size hB3)
  have hlx := Aside0.mk (show l1.length ≤ 4294967296 by have := hn.out; omega)
  go_wp2_with fail
  refine (list_nil _).mono ?_
  rintro e w4 ⟨v0, rfl, hv0, hB4⟩
  have hSx := Aside0.mk (S_below hSx.out hB4)
  have hSy := Aside0.mk (S_below hSy.out hB4)
  have hv0 := Aside0.mk hv0
  have hB4 := Aside0.mk hB4
  go_wp2_with fail
  refine (list_calls _ _ _ _ hSx.out (by have := hn.out; have := hlx.out; omega)).mono ?_
  rintro e w5 ⟨v1, rfl, hv1, hB5⟩
  have hSy := Aside0.mk (S_below hSy.out hB5)
  have hv1 := Aside0.mk hv1
  have hB5 := Aside0.mk hB5
  go_wp2_with fail
  refine (list_calls _ _ _ _ hSy.out (by have := hn.out; omega)).mono ?_
  rintro e w6 ⟨v2, rfl, hv2, hB6⟩
  have hv2 := Aside0.mk hv2
  have hB6 := Aside0.mk hB6
  go_wp2_with fail
  refine bodyPost_ret (v := .tuple #[v0, v1, v2, .bool res]) (by simp [results, Try.results41, go_sem]) rfl ?_
  exact three hB3.out hv0.out hB4.out hv1.out hB5.out hv2.out hB6.out

theorem equal_calls (b1 N1 : Nat) (l1 : List ByteArray) (b2 N2 : Nat) (l2 : List ByteArray) (w : World) (hS1 : S w b1 N1 l1) (hS2 : S w b2 N2 l2) :
    Calls Try.prog 81 #[.map (some b1), .map (some b2)] w (TestPost w (decide ((ded l1).length = (ded l2).length) && l2.all fun x => decide (x ∈ l1))) := by
  by_cases h : (ded l1).length = (ded l2).length
  · rw [decide_eq_true h, Bool.true_and]
    exact equal_yes b1 N1 l1 b2 N2 l2 w hS1 hS2 h
  · rw [decide_eq_false h, Bool.false_and]
    exact equal_no b1 N1 l1 b2 N2 l2 w hS1 hS2 h

set_option maxHeartbeats 600000 in
set_option maxRecDepth 100000 in
theorem ops10 (A1 : Option Addr) (c1 : Nat) (l1 : List ByteArray) (A2 : Option Addr) (c2 : Nat) (l2 : List ByteArray) (A3 : Option Addr) (c3 : Nat) (l3 : List ByteArray) (w : World) (hr1 : Kd.string.C w A1 l1.length l1) (hc1 : l1.length ≤ c1) (hr2 : Kd.string.C w A2 l2.length l2) (hc2 : l2.length ≤ c2) (hr3 : Kd.string.C w A3 l3.length l3) (hc3 : l3.length ≤ c3) (hn : l1.length ≤ 2147483647 ∧ l2.length ≤ 2147483647 ∧ l3.length ≤ 2147483647) (hok1 : ∀ x ∈ l1, (fun s : ByteArray => s.size ≤ maxLen) x) (hok2 : ∀ x ∈ l2, (fun s : ByteArray => s.size ≤ maxLen) x) (hok3 : ∀ x ∈ l3, (fun s : ByteArray => s.size ≤ maxLen) x) :
    Calls Try.prog 41 #[.int .i64 10, .slice A1 l1.length c1, .slice A2 l2.length c2, .slice A3 l3.length c3] w (OpsPost w (canon []) (canon l1) (canon l2) (decide ((ded l1).length = (ded l2).length) && l2.all fun x => decide (x ∈ l1))) := by
  obtain ⟨res, hres⟩ : ∃ r, r = (decide ((ded l1).length = (ded l2).length) && l2.all fun x => decide (x ∈ l1)) := ⟨_, rfl⟩
  rw [← hres]
  have hr1 := Aside0.mk hr1
  have hr2 := Aside0.mk hr2
  have hr3 := Aside0.mk hr3
  have hn := Aside0.mk hn
  have hok1 := Aside0.mk hok1
  have hok2 := Aside0.mk hok2
  have hok3 := Aside0.mk hok3
  have hc1 := Aside0.mk hc1
  have hc2 := Aside0.mk hc2
  have hc3 := Aside0.mk hc3
  have hresx := Aside0.mk hres
  clear hres
  go_enter Try.func41, Try.ntmps41
  go_wp2_with fail
  refine (new_calls A1 l1 c1 _ hr1.out hc1.out (by have := hn.out; unfold maxLen; omega) hok1.out).mono ?_
  rintro e w1 ⟨rfl, hSx, hB1⟩
  have hzx := Aside0.mk (Su.lt hSx)
  have hSx := Aside0.mk hSx
  have hB1 := Aside0.mk hB1
  go_wp2_with fail
  refine (new_calls A2 l2 c2 _ (Kd.C_below hr2.out hB1.out) hc2.out (by have := hn.out; unfold maxLen; omega) hok2.out).mono ?_
  rintro e w2 ⟨rfl, hSy, hB2⟩
  have hzy := Aside0.mk (Su.lt hSy)
  have hSx := Aside0.mk (S_below hSx.out hB2)
  have hSy := Aside0.mk hSy
  have hB2 := Aside0.mk (below_then hB1.out hB1.out.size hB2)
  go_wp2_with fail
  have hcall := (equal_calls _ _ l1 _ _ l2 _ hSx.out hSy.out)
  rw [← hresx.out] at hcall
  refine (hcall).mono ?_
  clear hcall
  rintro e w3 ⟨rfl, hB3⟩
  have hSx := Aside0.mk (S_below hSx.out hB3)
  have hSy := Aside0.mk (S_below hSy.out hB3)
  have hB3 := Aside0.mk (below_then hB2.out hB2.out.size hB3)
  have hlx := Aside0.mk (show l1.length ≤ 4294967296 by have := hn.out; omega)
  go_wp2_with fail
  refine (list_nil _).mono ?_
  rintro e w4 ⟨v0, rfl, hv0, hB4⟩
  have hSx := Aside0.mk (S_below hSx.out hB4)
  have hSy := Aside0.mk (S_below hSy.out hB4)
  have hv0 := Aside0.mk hv0
  have hB4 := Aside0.mk hB4
  go_wp2_with fail
  refine (list_calls _ _ _ _ hSx.out (by have := hn.out; have := hlx.out; omega)).mono ?_
  rintro e w5 ⟨v1, rfl, hv1, hB5⟩
  have hSy := Aside0.mk (S_below hSy.out hB5)
  have hv1 := Aside0.mk hv1
  have hB5 := Aside0.mk hB5
  go_wp2_with fail
  refine (list_calls _ _ _ _ hSy.out (by have := hn.out; omega)).mono ?_
  rintro e w6 ⟨v2, rfl, hv2, hB6⟩
  have hv2 := Aside0.mk hv2
  have hB6 := Aside0.mk hB6
  go_wp2_with fail
  refine bodyPost_ret (v := .tuple #[v0, v1, v2, .bool res]) (by simp [results, Try.results41, go_sem]) rfl ?_
  exact three hB3.out hv0.out hB4.out hv1.out hB5.out hv2.out hB6.out

set_option maxHeartbeats 600000 in
set_option maxRecDepth 100000 in
theorem ops11 (x : ByteArray) (A1 : Option Addr) (c1 : Nat) (l1 : List ByteArray) (A2 : Option Addr) (c2 : Nat) (l2 : List ByteArray) (A3 : Option Addr) (c3 : Nat) (l3 : List ByteArray) (w : World) (hr1 : Kd.string.C w A1 l1.length l1) (hc1 : l1.length ≤ c1) (hr2 : Kd.string.C w A2 l2.length l2) (hc2 : l2.length ≤ c2) (hr3 : Kd.string.C w A3 l3.length l3) (hc3 : l3.length ≤ c3) (hn : l1.length ≤ 2147483647 ∧ l2.length ≤ 2147483647 ∧ l3.length ≤ 2147483647) (hok1 : ∀ x ∈ l1, (fun s : ByteArray => s.size ≤ maxLen) x) (hok2 : ∀ x ∈ l2, (fun s : ByteArray => s.size ≤ maxLen) x) (hok3 : ∀ x ∈ l3, (fun s : ByteArray => s.size ≤ maxLen) x) (hx : l3[0]? = some x) :
    Calls Try.prog 41 #[.int .i64 11, .slice A1 l1.length c1, .slice A2 l2.length c2, .slice A3 l3.length c3] w (OpsPost w (canon []) (canon l1) (canon l2) (decide (x ∈ l1))) := by
  obtain ⟨res, hres⟩ : ∃ r, r = (decide (x ∈ l1)) := ⟨_, rfl⟩
  rw [← hres]
  have hpos : 0 < l3.length := (List.getElem?_eq_some_iff.1 hx).1
  have hxm := hok3 x (List.mem_of_getElem? hx)
  obtain ⟨ad, e1, _⟩ := Kd.at_string hr3 (0 : Int) (Int.le_refl _) (by omega)
  subst e1
  have hxx := Aside0.mk hx
  clear hx
  have hr1 := Aside0.mk hr1
  have hr2 := Aside0.mk hr2
  have hr3 := Aside0.mk hr3
  have hn := Aside0.mk hn
  have hok1 := Aside0.mk hok1
  have hok2 := Aside0.mk hok2
  have hok3 := Aside0.mk hok3
  have hc1 := Aside0.mk hc1
  have hc2 := Aside0.mk hc2
  have hc3 := Aside0.mk hc3
  have hresx := Aside0.mk hres
  clear hres
  go_enter Try.func41, Try.ntmps41
  go_wp2_with fail
  refine (new_calls A1 l1 c1 _ hr1.out hc1.out (by have := hn.out; unfold maxLen; omega) hok1.out).mono ?_
  rintro e w1 ⟨rfl, hSx, hB1⟩
  have hzx := Aside0.mk (Su.lt hSx)
  have hSx := Aside0.mk hSx
  have hB1 := Aside0.mk hB1
  go_wp2_with fail
  refine (new_calls A2 l2 c2 _ (Kd.C_below hr2.out hB1.out) hc2.out (by have := hn.out; unfold maxLen; omega) hok2.out).mono ?_
  rintro e w2 ⟨rfl, hSy, hB2⟩
  have hzy := Aside0.mk (Su.lt hSy)
  have hSx := Aside0.mk (S_below hSx.out hB2)
  have hSy := Aside0.mk hSy
  have hB2 := Aside0.mk (below_then hB1.out hB1.out.size hB2)
  obtain ⟨ad', e1, hcell⟩ := Kd.at_string (Kd.C_below hr3.out hB2.out) (0 : Int) (Int.le_refl _) (by omega)
  obtain rfl : ad = ad' := by simpa using e1
  have hx0 : rdOf ByteArray.empty l3 (0 : Int) = x := by
    have := hxx.out
    simp [rdOf, this]
  rw [hx0] at hcell
  replace hcell : w2.cell? (ad.add 0) = some (Value.string x) := hcell
  have hcell' : w2.cell? ad = some (Value.string x) := by rw [← hcell]; cases ad; rfl
  clear e1 hx0
  go_wp2_with fail
  refine (has_calls _ _ l1 x res _ hSx.out hxm hresx.out.symm).mono ?_
  rintro e w' ⟨rfl, rfl⟩
  have hB3 := Aside0.mk (hB2.out.alloc hB2.out.size (.cells #[] 105))
  have hSx := Aside0.mk (Su.kept hSx.out (World.grownBy_alloc w2 (.cells #[] 105) none) (by simp))
  have hSy := Aside0.mk (Su.kept hSy.out (World.grownBy_alloc w2 (.cells #[] 105) none) (by simp))
  have hlx := Aside0.mk (show l1.length ≤ 4294967296 by have := hn.out; omega)
  go_wp2_with fail
  refine (list_nil _).mono ?_
  rintro e w4 ⟨v0, rfl, hv0, hB4⟩
  have hSx := Aside0.mk (S_below hSx.out hB4)
  have hSy := Aside0.mk (S_below hSy.out hB4)
  have hv0 := Aside0.mk hv0
  have hB4 := Aside0.mk hB4
  go_wp2_with fail
  refine (list_calls _ _ _ _ hSx.out (by have := hn.out; have := hlx.out; omega)).mono ?_
  rintro e w5 ⟨v1, rfl, hv1, hB5⟩
  have hSy := Aside0.mk (S_below hSy.out hB5)
  have hv1 := Aside0.mk hv1
  have hB5 := Aside0.mk hB5
  go_wp2_with fail
  refine (list_calls _ _ _ _ hSy.out (by have := hn.out; omega)).mono ?_
  rintro e w6 ⟨v2, rfl, hv2, hB6⟩
  have hv2 := Aside0.mk hv2
  have hB6 := Aside0.mk hB6
  go_wp2_with fail
  refine bodyPost_ret (v := .tuple #[v0, v1, v2, .bool res]) (by simp [results, Try.results41, go_sem]) rfl ?_
  exact three hB3.out hv0.out hB4.out hv1.out hB5.out hv2.out hB6.out

set_option maxHeartbeats 600000 in
set_option maxRecDepth 100000 in
theorem ops12 (A1 : Option Addr) (c1 : Nat) (l1 : List ByteArray) (A2 : Option Addr) (c2 : Nat) (l2 : List ByteArray) (A3 : Option Addr) (c3 : Nat) (l3 : List ByteArray) (w : World) (hr1 : Kd.string.C w A1 l1.length l1) (hc1 : l1.length ≤ c1) (hr2 : Kd.string.C w A2 l2.length l2) (hc2 : l2.length ≤ c2) (hr3 : Kd.string.C w A3 l3.length l3) (hc3 : l3.length ≤ c3) (hn : l1.length ≤ 2147483647 ∧ l2.length ≤ 2147483647 ∧ l3.length ≤ 2147483647) (hok1 : ∀ x ∈ l1, (fun s : ByteArray => s.size ≤ maxLen) x) (hok2 : ∀ x ∈ l2, (fun s : ByteArray => s.size ≤ maxLen) x) (hok3 : ∀ x ∈ l3, (fun s : ByteArray => s.size ≤ maxLen) x) :
    Calls Try.prog 41 #[.int .i64 12, .slice A1 l1.length c1, .slice A2 l2.length c2, .slice A3 l3.length c3] w (OpsPost w (canon l1) (canon l1) (canon l2) false) := by
  have hlen := hr1.2.1
  have hr1 := Aside0.mk hr1
  have hr2 := Aside0.mk hr2
  have hr3 := Aside0.mk hr3
  have hn := Aside0.mk hn
  have hok1 := Aside0.mk hok1
  have hok2 := Aside0.mk hok2
  have hok3 := Aside0.mk hok3
  have hc1 := Aside0.mk hc1
  have hc2 := Aside0.mk hc2
  have hc3 := Aside0.mk hc3
  go_enter Try.func41, Try.ntmps41
  go_wp2_with fail
  refine (new_calls A1 l1 c1 _ hr1.out hc1.out (by have := hn.out; unfold maxLen; omega) hok1.out).mono ?_
  rintro e w1 ⟨rfl, hSx, hB1⟩
  have hzx := Aside0.mk (Su.lt hSx)
  have hSx := Aside0.mk hSx
  have hB1 := Aside0.mk hB1
  go_wp2_with fail
  refine (new_calls A2 l2 c2 _ (Kd.C_below hr2.out hB1.out) hc2.out (by have := hn.out; unfold maxLen; omega) hok2.out).mono ?_
  rintro e w2 ⟨rfl, hSy, hB2⟩
  have hzy := Aside0.mk (Su.lt hSy)
  have hSx := Aside0.mk (S_below hSx.out hB2)
  have hSy := Aside0.mk hSy
  have hB2 := Aside0.mk (below_then hB1.out hB1.out.size hB2)
  have hmk := Aside0.mk (show SB (w2.alloc (.map #[] 0)) w2.heap.size 0 [] from SetGenB.Su.made w2)
  obtain ⟨w2', hw2⟩ : ∃ x : World, x = w2.alloc (.map #[] 0) := ⟨_, rfl⟩
  rw [← hw2] at hmk
  have hg2' := Aside0.mk (show w2.grownBy w2' none from by rw [hw2]; exact World.grownBy_alloc _ _ _)
  have hmm3 : (Instr.makeMap 88 none).run Try.prog w2 = .ok (.map (some w2.heap.size)) w2' := by rw [hw2]; exact run_makeMap _ w2
  clear hw2
  go_wp2_with fail
  go_loopw [93] (fun i wr => ∃ k : Nat, k ≤ l1.length ∧ i = .int .i64 k ∧ SB wr w2.heap.size k (l1.take k) ∧ w2'.grownBy wr (some w2.heap.size)) (fun i _ => l1.length - (intOf i).toNat)
  case atStart => exact ⟨0, Nat.zero_le _, rfl, hmk.out, World.grownBy.refl _ _⟩
  case round =>
    obtain ⟨k, hk, rfl, hSk, hgk⟩ := hrel
    have hB2' := below_then hB2.out hB2.out.size (Below.grown (Below.refl _ _) hg2'.out (Nat.le_refl _) (fun j hj => by cases hj))
    have hBk := Below.grown hB2' hgk hB2'.size (fun j hj => by cases hj; exact hB2.out.size)
    have hrk := Kd.C_below hr1.out hBk
    by_cases c3 : (k : Int) < (l1.length : Int)
    · obtain ⟨x, hx⟩ : ∃ x, rdOf ByteArray.empty l1 (k : Int) = x := ⟨_, rfl⟩
      have hxl : l1[k]? = some x := at_of hx (by omega)
      have hxm : x ∈ l1 := List.mem_of_getElem? hxl
      have p := Int.natCast_nonneg k
      obtain ⟨ad, e1, hcell⟩ := Kd.at_string hrk (k : Int) p c3
      rw [hx, Int.toNat_natCast] at hcell
      cases e1
      have c3b := decide_eq_true c3
      have hk2 := Aside0.mk (show k + 1 ≤ l1.length by omega)
      replace p := eq_true p
      replace c3 := eq_true c3
      have hokx := hok1.out x hxm
      have hSx := Aside0.mk hSk
      have hgx := Aside0.mk hgk
      clear hSk hgk hrk hBk hB2'
      go_wp2_with (first
        | (at_mapUpdate; refine SetGenB.wp_put _ kk rfl _ _ _ 88 rfl 4 Try.underlying88 w2.heap.size k (l1.take k) rfl Try.underlying4 rfl hSx.out (by unfold maxLen; have := hk2.out; omega) x hokx rfl ?_; intro w3 hS3 hg3; have hS3 := Aside0.mk hS3; have hg3 := Aside0.mk hg3)
        | go_in)
      go_roundw
      case measure => have := hk2.out; rw [show (k : Int) + 1 = ((k + 1 : Nat) : Int) from rfl]; exact meas this
      case rel =>
        refine ⟨k + 1, hk2.out, by go_num, ?_, hgx.out.andThen hg3.out (fun j hj => .inr hj)⟩
        have := hS3.out
        rw [← take_succ_of hxl] at this
        exact this
    · have c3b := decide_eq_false c3
      obtain rfl : k = l1.length := by omega
      rw [List.take_length] at hSk
      have hg2k := (hg2'.out.but (some w2.heap.size)).andThen hgk (fun j hj => .inr hj)
      have hSx := Aside0.mk (Su.kept hSx.out hg2k (by have := hSx.out.lt; simp; omega))
      have hSy := Aside0.mk (Su.kept hSy.out hg2k (by have := hSy.out.lt; simp; omega))
      have hSk := Aside0.mk hSk
      have hBk := Aside0.mk hBk
      clear hgk hrk hg2k hB2'
      go_wp2_with fail
      refine (keyset_calls _ _ l1 _ hSk.out (by have := hn.out; omega)).mono ?_
      rintro e w3 ⟨rfl, hSz, hB3⟩
      have hSx := Aside0.mk (S_below hSx.out hB3)
      have hSy := Aside0.mk (S_below hSy.out hB3)
      have hSz := Aside0.mk hSz
      have hB3 := Aside0.mk (below_then hBk.out hBk.out.size hB3)
      have hlx := Aside0.mk (show l1.length ≤ 4294967296 by have := hn.out; omega)
      have hlz := hlx
      go_wp2_with fail
      refine (list_calls _ _ _ _ hSz.out (by have := hn.out; have := hlz.out; omega)).mono ?_
      rintro e w4 ⟨v0, rfl, hv0, hB4⟩
      have hSx := Aside0.mk (S_below hSx.out hB4)
      have hSy := Aside0.mk (S_below hSy.out hB4)
      have hv0 := Aside0.mk hv0
      have hB4 := Aside0.mk hB4
      go_wp2_with fail
      refine (list_calls _ _ _ _ hSx.out (by have := hn.out; have := hlx.out; omega)).mono ?_
      rintro e w5 ⟨v1, rfl, hv1, hB5⟩
      have hSy := Aside0.mk (S_below hSy.out hB5)
      have hv1 := Aside0.mk hv1
      have hB5 := Aside0.mk hB5
      go_wp2_with fail
      refine (list_calls _ _ _ _ hSy.out (by have := hn.out; omega)).mono ?_
      rintro e w6 ⟨v2, rfl, hv2, hB6⟩
      have hv2 := Aside0.mk hv2
      have hB6 := Aside0.mk hB6
      go_wp2_with fail
      refine bodyPost_ret (v := .tuple #[v0, v1, v2, .bool false]) (by simp [results, Try.results41, go_sem]) rfl ?_
      exact three hB3.out hv0.out hB4.out hv1.out hB5.out hv2.out hB6.out
end Go.Proofs.Ytmipenoiodjbhaa.SetS
