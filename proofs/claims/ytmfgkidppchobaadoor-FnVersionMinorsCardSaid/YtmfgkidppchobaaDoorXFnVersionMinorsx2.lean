/- A text of this session: the functions of the law FnVersionMinors, by a program that calls the kit's print and lays this session's own contracts of single functions beside. -/
import Derived.Test.YtmfgkidppchobaaDoorXFnVersionMinorsx0
import Derived.Test.YtmfgkidppchobaaDoorXFnVersionMinorsx1
namespace Go.Proofs.YtmfgkidppchobaaDoor.XFnVersionMinors
open Go.Proofs.YtmfgkidppchobaaDoor.Ver5 Go.RowKit Go.Proofs.YtmfgkidppchobaaDoorW.PrintWords Go.Proofs.YtmfgkidppchobaaDoorW.PrintLast Go.Proofs.YtmfgkidppchobaaDoorW.PrintMore
attribute [local go_sem] max2_int min2_int max_two min_two max_three min_three max_four min_four
set_option linter.unusedVariables false
set_option linter.unusedSimpArgs false
abbrev Qx2_0 : Array Bool := #[false, false, false, false, false, false, false, false, false, false, false, false, false, false, false, false, false, false, false, false, false, false, false, false, false, false, false, false, false, false, false, false, false, false, false, false, false, false, false, false, false, false, false, false, false, false, false]
abbrev Qx2_1 : Array Bool := #[true, false, false, false, false, false, false, false, false, false, false, false, false, false, false, false, false, false, false, false, false, false, false, false, false, false, false, false, false, false, false, false, false, false, false, false, false, false, false, false, false, false, false, false, false, false, false]
abbrev Qx2_2 : Array Bool := #[true, true, false, false, false, false, false, false, false, false, false, false, false, false, false, false, false, false, false, false, false, false, false, false, false, false, false, false, false, false, false, false, false, false, false, false, false, false, false, false, false, false, false, false, false, false, false]
abbrev Qx2_3 : Array Bool := #[true, true, true, false, false, false, false, false, false, false, false, false, false, false, false, false, false, false, false, false, false, false, false, false, false, false, false, false, false, false, false, false, false, false, false, false, false, false, false, false, false, false, false, false, false, false, false]
abbrev Qx2_4 : Array Bool := #[true, true, true, true, false, false, false, false, false, false, false, false, false, false, false, false, false, false, false, false, false, false, false, false, false, false, false, false, false, false, false, false, false, false, false, false, false, false, false, false, false, false, false, false, false, false, false]
abbrev Qx2_5 : Array Bool := #[true, true, true, true, true, false, false, false, false, false, false, false, false, false, false, false, false, false, false, false, false, false, false, false, false, false, false, false, false, false, false, false, false, false, false, false, false, false, false, false, false, false, false, false, false, false, false]
abbrev Qx2_6 : Array Bool := #[true, true, true, true, true, true, true, true, false, false, false, false, false, false, false, false, false, false, false, false, false, false, false, false, false, false, false, false, false, false, false, false, false, false, false, false, false, false, false, false, false, false, false, false, false, false, false]
abbrev Qx2_7 : Array Bool := #[true, true, true, true, true, true, true, true, true, false, false, false, false, false, false, false, false, false, false, false, false, false, false, false, false, false, false, false, false, false, false, false, false, false, false, false, false, false, false, false, false, false, false, false, false, false, false]
abbrev Qx2_8 : Array Bool := #[true, true, true, true, true, true, true, true, true, true, false, false, false, false, false, false, false, false, false, false, false, false, false, false, false, false, false, false, false, false, false, false, false, false, false, false, false, false, false, false, false, false, false, false, false, false, false]
abbrev Qx2_9 : Array Bool := #[true, true, true, true, true, true, true, true, true, true, true, false, false, false, false, false, false, false, false, false, false, false, false, false, false, false, false, false, false, false, false, false, false, false, false, false, false, false, false, false, false, false, false, false, false, false, false]
abbrev Qx2_10 : Array Bool := #[true, true, true, true, true, true, true, true, true, true, true, true, false, false, false, false, false, false, false, false, false, false, false, false, false, false, false, false, false, false, false, false, false, false, false, false, false, false, false, false, false, false, false, false, false, false, false]
abbrev Qx2_11 : Array Bool := #[true, true, true, true, true, true, true, true, true, true, true, true, true, false, false, false, false, false, false, false, false, false, false, false, false, false, false, false, false, false, false, false, false, false, false, false, false, false, false, false, false, false, false, false, false, false, false]
abbrev Qx2_12 : Array Bool := #[true, true, true, true, true, true, true, true, true, true, true, true, true, true, false, false, false, false, false, false, false, false, false, false, false, false, false, false, false, false, false, false, false, false, false, false, false, false, false, false, false, false, false, false, false, false, false]
abbrev Qx2_13 : Array Bool := #[true, true, true, true, true, true, true, true, true, true, true, true, true, true, true, true, false, false, false, false, false, false, false, false, false, false, false, false, false, false, false, false, false, false, false, false, false, false, false, false, false, false, false, false, false, false, false]
abbrev Qx2_14 : Array Bool := #[true, true, true, true, true, true, true, true, true, true, true, true, true, true, true, true, true, false, false, false, false, false, false, false, false, false, false, false, false, false, false, false, false, false, false, false, false, false, false, false, false, false, false, false, false, false, false]
abbrev Qx2_15 : Array Bool := #[true, true, true, true, true, true, true, true, true, true, true, true, true, true, true, true, true, true, false, false, false, false, false, false, false, false, false, false, false, false, false, false, false, false, false, false, false, false, false, false, false, false, false, false, false, false, false]
abbrev Qx2_16 : Array Bool := #[true, true, true, true, true, true, true, true, true, true, true, true, true, true, true, true, true, true, true, false, false, false, false, false, false, false, false, false, false, false, false, false, false, false, false, false, false, false, false, false, false, false, false, false, false, false, false]
abbrev Qx2_17 : Array Bool := #[true, true, true, true, true, true, true, true, true, true, true, true, true, true, true, true, true, true, true, true, false, false, false, false, false, false, false, false, false, false, false, false, false, false, false, false, false, false, false, false, false, false, false, false, false, false, false]
abbrev Qx2_18 : Array Bool := #[true, true, true, true, true, true, true, true, true, true, true, true, true, true, true, true, true, true, true, true, true, false, false, false, false, false, false, false, false, false, false, false, false, false, false, false, false, false, false, false, false, false, false, false, false, false, false]
abbrev Qx2_19 : Array Bool := #[true, true, true, true, true, true, true, true, true, true, true, true, true, true, true, true, true, true, true, true, true, true, true, false, false, false, false, false, false, false, false, false, false, false, false, false, false, false, false, false, false, false, false, false, false, false, false]
abbrev Qx2_20 : Array Bool := #[true, true, true, true, true, true, true, true, true, true, true, true, true, true, true, true, true, true, true, true, true, true, true, true, false, false, false, false, false, false, false, false, false, false, false, false, false, false, false, false, false, false, false, false, false, false, false]
abbrev Qx2_21 : Array Bool := #[true, true, true, true, true, true, true, true, true, true, true, true, true, true, true, true, true, true, true, true, true, true, true, true, true, false, false, false, false, false, false, false, false, false, false, false, false, false, false, false, false, false, false, false, false, false, false]
abbrev Qx2_22 : Array Bool := #[true, true, true, true, true, true, true, true, true, true, true, true, true, true, true, true, true, true, true, true, true, true, true, true, true, true, false, false, false, false, false, false, false, false, false, false, false, false, false, false, false, false, false, false, false, false, false]
abbrev Qx2_23 : Array Bool := #[true, true, true, true, true, true, true, true, true, true, true, true, true, true, true, true, true, true, true, true, true, true, true, true, true, true, true, false, false, false, false, false, false, false, false, false, false, false, false, false, false, false, false, false, false, false, false]
abbrev Qx2_24 : Array Bool := #[true, true, true, true, true, true, true, true, true, true, true, true, true, true, true, true, true, true, true, true, true, true, true, true, true, true, true, true, false, false, false, false, false, false, false, false, false, false, false, false, false, false, false, false, false, false, false]
abbrev Qx2_25 : Array Bool := #[true, true, true, true, true, true, true, true, true, true, true, true, true, true, true, true, true, true, true, true, true, true, true, true, true, true, true, true, true, false, false, false, false, false, false, false, false, false, false, false, false, false, false, false, false, false, false]
abbrev Qx2_26 : Array Bool := #[true, true, true, true, true, true, true, true, true, true, true, true, true, true, true, true, true, true, true, true, true, true, true, true, true, true, true, true, true, true, false, false, false, false, false, false, false, false, false, false, false, false, false, false, false, false, false]
abbrev Qx2_27 : Array Bool := #[true, true, true, true, true, true, true, true, true, true, true, true, true, true, true, true, true, true, true, true, true, true, true, true, true, true, true, true, true, true, true, false, false, false, false, false, false, false, false, false, false, false, false, false, false, false, false]
abbrev Qx2_28 : Array Bool := #[true, true, true, true, true, true, true, true, true, true, true, true, true, true, true, true, true, true, true, true, true, true, true, true, true, true, true, true, true, true, true, true, false, false, false, false, false, false, false, false, false, false, false, false, false, false, false]
abbrev Qx2_29 : Array Bool := #[true, true, true, true, true, true, true, true, true, true, true, true, true, true, true, true, true, true, true, true, true, true, true, true, true, true, true, true, true, true, true, true, true, false, false, false, false, false, false, false, false, false, false, false, false, false, false]
abbrev Qx2_30 : Array Bool := #[true, true, true, true, true, true, true, true, true, true, true, true, true, true, true, true, true, true, true, true, true, true, true, true, true, true, true, true, true, true, true, true, true, true, false, false, false, false, false, false, false, false, false, false, false, false, false]
abbrev Qx2_31 : Array Bool := #[true, true, true, true, true, true, true, true, true, true, true, true, true, true, true, true, true, true, true, true, true, true, true, true, true, true, true, true, true, true, true, true, true, true, true, false, false, false, false, false, false, false, false, false, false, false, false]
abbrev Qx2_32 : Array Bool := #[true, true, true, true, true, true, true, true, true, true, true, true, true, true, true, true, true, true, true, true, true, true, true, true, true, true, true, true, true, true, true, true, true, true, true, true, false, false, false, false, false, false, false, false, false, false, false]
abbrev Qx2_33 : Array Bool := #[true, true, true, true, true, true, true, true, true, true, true, true, true, true, true, true, true, true, true, true, true, true, true, true, true, true, true, true, true, true, true, true, true, true, true, true, true, false, false, false, false, false, false, false, false, false, false]
abbrev Qx2_34 : Array Bool := #[true, true, true, true, true, true, true, true, true, true, true, true, true, true, true, true, true, true, true, true, true, true, true, true, true, true, true, true, true, true, true, true, true, true, true, true, true, true, false, false, false, false, false, false, false, false, false]
abbrev Qx2_35 : Array Bool := #[true, true, true, true, true, true, true, true, true, true, true, true, true, true, true, true, true, true, true, true, true, true, true, true, true, true, true, true, true, true, true, true, true, true, true, true, true, true, true, false, false, false, false, false, false, false, false]
abbrev Qx2_36 : Array Bool := #[true, true, true, true, true, true, true, true, true, true, true, true, true, true, true, true, true, true, true, true, true, true, true, true, true, true, true, true, true, true, true, true, true, true, true, true, true, true, true, true, false, false, false, false, false, false, false]
abbrev Qx2_37 : Array Bool := #[true, true, true, true, true, true, true, true, true, true, true, true, true, true, true, true, true, true, true, true, true, true, true, true, true, true, true, true, true, true, true, true, true, true, true, true, true, true, true, true, true, false, false, false, false, false, false]
abbrev Qx2_38 : Array Bool := #[true, true, true, true, true, true, true, true, true, true, true, true, true, true, true, true, true, true, true, true, true, true, true, true, true, true, true, true, true, true, true, true, true, true, true, true, true, true, true, true, true, true, false, false, false, false, false]
abbrev Qx2_39 : Array Bool := #[true, true, true, true, true, true, true, true, true, true, true, true, true, true, true, true, true, true, true, true, true, true, true, true, true, true, true, true, true, true, true, true, true, true, true, true, true, true, true, true, true, true, true, false, false, false, false]
abbrev Qx2_40 : Array Bool := #[true, true, true, true, true, true, true, true, true, true, true, true, true, true, true, true, true, true, true, true, true, true, true, true, true, true, true, true, true, true, true, true, true, true, true, true, true, true, true, true, true, true, true, true, false, false, false]
abbrev Qx2_41 : Array Bool := #[true, true, true, true, true, true, true, true, true, true, true, true, true, true, true, true, true, true, true, true, true, true, true, true, true, true, true, true, true, true, true, true, true, true, true, true, true, true, true, true, true, true, true, true, true, false, false]
abbrev Qx2_42 : Array Bool := #[true, true, true, true, true, true, true, true, true, true, true, true, true, true, true, true, true, true, true, true, true, true, true, true, true, true, true, true, true, true, true, true, true, true, true, true, true, true, true, true, true, true, true, true, true, true, false]
abbrev Qx2_43 : Array Bool := #[true, true, true, true, true, true, true, true, true, true, true, true, true, true, true, true, true, true, true, true, true, true, true, true, true, true, true, true, true, true, true, true, true, true, true, true, true, true, true, true, true, true, true, true, true, true, true]
abbrev Qx2_44 : Array Bool := #[true, true, true, true, true, false, false, true, false, false, false, false, false, false, false, false, false, false, false, false, false, false, false, false, false, false, false, false, false, false, false, false, false, false, false, false, false, false, false, false, false, false, false, false, false, false, false]
abbrev Qx2_45 : Array Bool := #[true, true, true, true, true, true, false, true, false, false, false, false, false, false, false, false, false, false, false, false, false, false, false, false, false, false, false, false, false, false, false, false, false, false, false, false, false, false, false, false, false, false, false, false, false, false, false]
abbrev Qx2_46 : Array Bool := #[true, true, true, true, true, true, true, true, true, true, true, true, true, true, false, true, false, false, false, false, false, false, false, false, false, false, false, false, false, false, false, false, false, false, false, false, false, false, false, false, false, false, false, false, false, false, false]
abbrev Qx2_47 : Array Bool := #[true, true, true, true, true, true, true, true, true, true, true, true, true, true, true, true, true, true, true, true, true, false, true, false, false, false, false, false, false, false, false, false, false, false, false, false, false, false, false, false, false, false, false, false, false, false, false]
abbrev Qx2_48 : Array Bool := #[true, true, true, true, true, true, true, true, true, true, true, true, true, true, true, true, true, true, true, true, true, true, false, false, false, false, false, false, false, false, false, false, false, false, false, false, false, false, false, false, false, false, false, false, false, false, false]
abbrev Qx2_49 : Array Bool := #[false, false, false, false, false, false, false, false, false, false, false, false, false, false, false, false, false]
abbrev Qx2_50 : Array Bool := #[true, false, false, false, false, false, false, false, false, false, false, false, false, false, false, false, false]
abbrev Qx2_51 : Array Bool := #[true, true, false, false, false, false, false, false, false, false, false, false, false, false, false, false, false]
abbrev Qx2_52 : Array Bool := #[true, true, true, false, false, false, false, false, false, false, false, false, false, false, false, false, false]
abbrev Qx2_53 : Array Bool := #[true, true, true, true, false, false, false, false, false, false, false, false, false, false, false, false, false]
abbrev Qx2_54 : Array Bool := #[true, true, true, true, true, false, false, false, false, false, false, false, false, false, false, false, false]
abbrev Qx2_55 : Array Bool := #[true, true, true, true, true, true, false, false, false, false, false, false, false, false, false, false, false]
abbrev Qx2_56 : Array Bool := #[true, true, true, true, true, true, true, false, false, false, false, false, false, false, false, false, false]
abbrev Qx2_57 : Array Bool := #[true, true, true, true, true, true, true, true, false, false, false, false, false, false, false, false, false]
abbrev Qx2_58 : Array Bool := #[true, true, true, true, true, true, true, true, true, false, false, false, false, false, false, false, false]
abbrev Qx2_59 : Array Bool := #[true, true, true, true, true, true, true, true, true, true, false, false, false, false, false, false, false]
abbrev Qx2_60 : Array Bool := #[true, true, true, true, true, true, true, true, true, true, true, false, false, false, false, false, false]
abbrev Qx2_61 : Array Bool := #[true, true, true, true, true, true, true, true, true, true, true, true, false, false, false, false, false]
abbrev Qx2_62 : Array Bool := #[true, true, true, true, true, true, true, true, true, true, true, true, true, false, false, false, false]
abbrev Qx2_63 : Array Bool := #[true, true, true, true, true, true, true, true, true, true, true, true, true, true, false, false, false]
abbrev Qx2_64 : Array Bool := #[true, true, true, true, true, true, true, true, true, true, true, true, true, true, true, false, false]
abbrev Qx2_65 : Array Bool := #[true, true, true, true, true, true, true, true, true, true, true, true, true, true, true, true, false]
abbrev Qx2_66 : Array Bool := #[true, true, true, true, true, true, true, true, true, true, true, true, true, true, true, true, true]
abbrev Qx2_67 : Array Bool := #[true, true, true, true, true, true, true, true, true, true, true, true, true, true, true, false, false, false, false, false, false, false, false, false, false, false, false, false, false, false, false, false, false, false, false, false, false, false, false, false, false, false, false, false, false, false, false]
abbrev Qx2_68 : Array Bool := #[false, false, false, false, false, false, false, false, false, false, false]
abbrev Qx2_69 : Array Bool := #[true, false, false, false, false, false, false, false, false, false, false]
abbrev Qx2_70 : Array Bool := #[true, false, true, false, false, false, false, false, false, false, false]
abbrev Qx2_71 : Array Bool := #[true, false, true, false, false, true, false, false, false, false, false]
abbrev Qx2_72 : Array Bool := #[true, false, true, false, false, true, false, true, false, false, false]
abbrev Qx2_73 : Array Bool := #[true, true, true, false, false, true, false, true, false, false, false]
abbrev Qx2_74 : Array Bool := #[true, true, true, true, false, true, false, true, false, false, false]
abbrev Qx2_75 : Array Bool := #[true, true, true, true, true, true, false, true, false, false, false]
abbrev Qx2_76 : Array Bool := #[true, true, true, true, true, true, true, true, false, false, false]
abbrev Qx2_77 : Array Bool := #[true, true, true, true, true, true, true, true, true, false, false]
abbrev Qx2_78 : Array Bool := #[true, true, true, true, true, true, true, true, true, true, false]
abbrev Qx2_79 : Array Bool := #[true, true, true, true, true, true, true, true, true, true, true]
mutual
def spec_SameVer.j0 : Nat → Bool → List Int → Bool → ByteArray → ByteArray → Bool → List Int → ByteArray → ByteArray → ByteArray → Int → Int → Int → Option (Bool)
 | 0, _, _, _, _, _, _, _, _, _, _, _, _, _ => none
 | k + 1, x52, x115000, x115001, x115002, x115003, x116000, x116001, x116002, x116003, x116004, x116005, x116006, x116007 => if x52 = true then (some false) else (spec_SameVer.l0 k 0 x115000 x115001 x115002 x115003 x116000 x116001 x116002 x116003 x116004 x116005 x116006 x116007)
def spec_SameVer.l0 : Nat → Int → List Int → Bool → ByteArray → ByteArray → Bool → List Int → ByteArray → ByteArray → ByteArray → Int → Int → Int → Option (Bool)
 | 0, _, _, _, _, _, _, _, _, _, _, _, _, _ => none
 | k + 1, x5, x115000, x115001, x115002, x115003, x116000, x116001, x116002, x116003, x116004, x116005, x116006, x116007 => if x5 < (x115000.length : Int) then (if 0 ≤ x5 then (if x5 < (x116001.length : Int) then (if (rd x116001 x5) = (rd x115000 x5) then (spec_SameVer.l0 k (wrap64 (x5 + 1)) x115000 x115001 x115002 x115003 x116000 x116001 x116002 x116003 x116004 x116005 x116006 x116007) else (some false)) else (none)) else (none)) else (if x115001 = true then ((spec_Version_part.f x115000 x115001 x115002 x115003 2).bind fun t121 => (some (x116007 == t121))) else (if (x115000.length : Int) > 2 then (some true) else ((spec_Version_part.f x115000 x115001 x115002 x115003 2).bind fun t122 => (some (x116007 == t122)))))
end
def spec_SameVer.f (k : Nat) (l0_0 : List Int) (a0_1 : Bool) (a0_2 : ByteArray) (a0_3 : ByteArray) (a1_0 : Bool) (l1_1 : List Int) (a1_2 : ByteArray) (a1_3 : ByteArray) (a1_4 : ByteArray) (a1_5 : Int) (a1_6 : Int) (a1_7 : Int) : Option (Bool) := if a1_0 = true then (if (l1_1.length : Int) = (l0_0.length : Int) then (if a1_2.toList = a0_2.toList then (if a1_3.toList = a0_3.toList then ((spec_Version_Text.f k l0_0 a0_1 a0_2 a0_3).bind fun t116 => (if a1_4.toList = t116.toList then ((spec_Version_part.f l0_0 a0_1 a0_2 a0_3 0).bind fun t117 => (if a1_5 = t117 then ((spec_Version_part.f l0_0 a0_1 a0_2 a0_3 1).bind fun t118 => (spec_SameVer.j0 k (a1_6 != t118) l0_0 a0_1 a0_2 a0_3 a1_0 l1_1 a1_2 a1_3 a1_4 a1_5 a1_6 a1_7)) else (spec_SameVer.j0 k true l0_0 a0_1 a0_2 a0_3 a1_0 l1_1 a1_2 a1_3 a1_4 a1_5 a1_6 a1_7))) else (spec_SameVer.j0 k true l0_0 a0_1 a0_2 a0_3 a1_0 l1_1 a1_2 a1_3 a1_4 a1_5 a1_6 a1_7))) else (spec_SameVer.j0 k true l0_0 a0_1 a0_2 a0_3 a1_0 l1_1 a1_2 a1_3 a1_4 a1_5 a1_6 a1_7)) else (spec_SameVer.j0 k true l0_0 a0_1 a0_2 a0_3 a1_0 l1_1 a1_2 a1_3 a1_4 a1_5 a1_6 a1_7)) else (spec_SameVer.j0 k true l0_0 a0_1 a0_2 a0_3 a1_0 l1_1 a1_2 a1_3 a1_4 a1_5 a1_6 a1_7)) else (spec_SameVer.j0 k true l0_0 a0_1 a0_2 a0_3 a1_0 l1_1 a1_2 a1_3 a1_4 a1_5 a1_6 a1_7)
def spec_SameVer.T1 : Bool × List (List Nat × List Nat) := (true, [([], []), ([0], [0]), ([1], [1]), ([2], [2]), ([3], [3]), ([4, 3], [3, 4]), ([5, 3], [3, 5]), ([3], [3]), ([7, 3], [3, 7]), ([8, 3], [3, 8]), ([6, 9, 3], [3, 6, 9]), ([3, 10], [3, 10]), ([11, 3], [11]), ([12], [12]), ([13, 12], [12, 13]), ([12], [12]), ([15, 12], [12, 15]), ([14, 16, 12], [12, 14, 16]), ([12, 17], [12, 17]), ([18, 12], [18]), ([19], [19]), ([20, 19], [19, 20]), ([19], [19]), ([22, 19], [19, 22]), ([21, 23, 19], [19, 21, 23]), ([19, 24], [19, 24]), ([25, 19], [25]), ([26], [26]), ([27, 26], [26, 27]), ([26], [26]), ([29, 26, 26], [26, 29]), ([28, 30, 26], [26, 28, 30]), ([26, 31], [26, 31]), ([32, 30], [32]), ([33], [33]), ([34, 33], [33, 34]), ([33], [33]), ([36, 33, 33], [33, 36]), ([35, 37, 33], [33, 35, 37]), ([33, 38], [33, 38]), ([39, 37], [39]), ([40], [40]), ([41, 40], [40, 41]), ([40], [40]), ([43, 40, 40], [40, 43]), ([42, 44, 40], [40, 42, 44]), ([40, 45], [40, 45])])
def spec_SameVer.B1 : List Nat := [0, 1, 3, 7, 15, 31, 63, 15, 143, 399, 1023, 2047, 4095, 8191, 16383, 8191, 40959, 131071, 262143, 524287, 1048575, 2097151, 1048575, 5242879, 16777215, 33554431, 67108863, 134217727, 268435455, 134217727, 671088639, 2147483647, 4294967295, 8589934591, 17179869183, 34359738367, 17179869183, 85899345919, 274877906943, 549755813887, 1099511627775, 2199023255551, 4398046511103, 2199023255551, 10995116277759, 35184372088831, 70368744177663]
theorem spec_SameVer.tab1 : rtab .any (opsOf Tryd.f16 1) = spec_SameVer.T1 := by kernel_rfl
theorem spec_SameVer.bits1 : waitsOk spec_SameVer.T1.2 spec_SameVer.B1 = true := by kernel_rfl
def spec_SameVer.T6 : Bool × List (List Nat × List Nat) := (true, [([], []), ([0], [0]), ([], []), ([1, 2], [1, 2]), ([3], [3]), ([], []), ([5], [5]), ([], []), ([6, 7], [6, 7]), ([8], [8]), ([4, 9], [4, 9])])
def spec_SameVer.B6 : List Nat := [0, 1, 0, 7, 15, 0, 32, 0, 224, 480, 1023]
theorem spec_SameVer.tab6 : rtab .any (opsOf Tryd.f16 6) = spec_SameVer.T6 := by kernel_rfl
theorem spec_SameVer.bits6 : waitsOk spec_SameVer.T6.2 spec_SameVer.B6 = true := by kernel_rfl
def spec_SameVer.T8 : Bool × List (List Nat × List Nat) := (true, [([], []), ([0], [0]), ([1], [1]), ([2], [2]), ([3], [3]), ([4, 3], [3, 4]), ([5, 3], [3, 5]), ([6, 3], [3, 6]), ([3, 7], [3, 7]), ([8, 3], [8]), ([9], [9]), ([10, 9], [9, 10]), ([9], [9]), ([12, 9, 9], [9, 12]), ([11, 13, 9], [9, 11, 13]), ([9, 14], [9, 14]), ([15, 13, 0, 1, 2, 3, 4, 5, 6, 7, 8, 9, 10, 11, 12, 13, 14, 15], [15])])
def spec_SameVer.B8 : List Nat := [0, 1, 3, 7, 15, 31, 63, 127, 255, 511, 1023, 2047, 1023, 5119, 16383, 32767, 65535]
theorem spec_SameVer.tab8 : rtab .any (opsOf Tryd.f16 8) = spec_SameVer.T8 := by kernel_rfl
theorem spec_SameVer.bits8 : waitsOk spec_SameVer.T8.2 spec_SameVer.B8 = true := by kernel_rfl
set_option maxHeartbeats 8000000 in
set_option maxRecDepth 100000 in
theorem spec_SameVer.calls (k : Nat) (A0_0 : Option Addr) (c0_0 : Nat) (l0_0 : List Int) (a0_1 : Bool) (a0_2 : ByteArray) (a0_3 : ByteArray) (a1_0 : Bool) (A1_1 : Option Addr) (c1_1 : Nat) (l1_1 : List Int) (a1_2 : ByteArray) (a1_3 : ByteArray) (a1_4 : ByteArray) (a1_5 : Int) (a1_6 : Int) (a1_7 : Int) (r : Bool) (w : World) (hr0_0 : Kd.C (Kd.int .u64) w A0_0 l0_0.length l0_0) (hc0_0 : l0_0.length ≤ c0_0) (hr1_1 : Kd.C (Kd.int .u64) w A1_1 l1_1.length l1_1) (hc1_1 : l1_1.length ≤ c1_1) (h : spec_SameVer.f k l0_0 a0_1 a0_2 a0_3 a1_0 l1_1 a1_2 a1_3 a1_4 a1_5 a1_6 a1_7 = some r) :
  Calls Tryd.prog 16 #[.agg #[.slice A0_0 l0_0.length c0_0, .bool a0_1, .string a0_2, .string a0_3], .agg #[.bool a1_0, .slice A1_1 l1_1.length c1_1, .string a1_2, .string a1_3, .string a1_4, .int .u64 a1_5, .int .u64 a1_6, .int .u64 a1_7]] w fun e w' => e = .returned (.bool r) ∧ Below w.heap.size w w' := by
 have hu25 := Tryd.underlying25
 have hu46 := Tryd.underlying46
 have HR0_0 := Aside0.mk hr0_0
 have HC0_0 := Aside0.mk hc0_0
 clear hr0_0 hc0_0
 have HR1_1 := Aside0.mk hr1_1
 have HC1_1 := Aside0.mk hc1_1
 clear hr1_1 hc1_1
 have HB := Aside0.mk (Below.refl w.heap.size w)
 have H : (if a1_0 = true then (if (l1_1.length : Int) = (l0_0.length : Int) then (if a1_2.toList = a0_2.toList then (if a1_3.toList = a0_3.toList then ((spec_Version_Text.f k l0_0 a0_1 a0_2 a0_3).bind fun t116 => (if a1_4.toList = t116.toList then ((spec_Version_part.f l0_0 a0_1 a0_2 a0_3 0).bind fun t117 => (if a1_5 = t117 then ((spec_Version_part.f l0_0 a0_1 a0_2 a0_3 1).bind fun t118 => (spec_SameVer.j0 k (a1_6 != t118) l0_0 a0_1 a0_2 a0_3 a1_0 l1_1 a1_2 a1_3 a1_4 a1_5 a1_6 a1_7)) else (spec_SameVer.j0 k true l0_0 a0_1 a0_2 a0_3 a1_0 l1_1 a1_2 a1_3 a1_4 a1_5 a1_6 a1_7))) else (spec_SameVer.j0 k true l0_0 a0_1 a0_2 a0_3 a1_0 l1_1 a1_2 a1_3 a1_4 a1_5 a1_6 a1_7))) else (spec_SameVer.j0 k true l0_0 a0_1 a0_2 a0_3 a1_0 l1_1 a1_2 a1_3 a1_4 a1_5 a1_6 a1_7)) else (spec_SameVer.j0 k true l0_0 a0_1 a0_2 a0_3 a1_0 l1_1 a1_2 a1_3 a1_4 a1_5 a1_6 a1_7)) else (spec_SameVer.j0 k true l0_0 a0_1 a0_2 a0_3 a1_0 l1_1 a1_2 a1_3 a1_4 a1_5 a1_6 a1_7)) else (spec_SameVer.j0 k true l0_0 a0_1 a0_2 a0_3 a1_0 l1_1 a1_2 a1_3 a1_4 a1_5 a1_6 a1_7)) = some r := h
 clear h
 have HC3 := Aside0.mk H
 clear H
 go_enter Tryd.func16, Tryd.ntmps16
 go_upto_region 1 with (first | ((with_reducible refine gate_dst (N := 2) rfl ?_); (try (refine gate_guard (by rfl) ?_; dsimp only)); refine box_event ?hg (N := 2) ?hd (cs := #[.slice A0_0 l0_0.length c0_0, .bool a0_1, .string a0_2, .string a0_3]) (t := 25) ?hr ?_; (case hd => rfl); (case hg => rfl); (case hr => first | (go_simp; done) | (go_simp; rfl)); intro gb114 hg w4 hbox hb; have n0_ := Aside0.mk (below_step (by repeat (first | (with_reducible first | exact HB.out | apply below_alloc | apply pw_below_drewN | apply below_drew1) | exact HB.out)) hb); have n1_ := Aside0.mk (hbox); have n2_ := Aside0.mk ((by rw [hg]; exact (below_size (by repeat (first | (with_reducible first | exact HB.out | apply below_alloc | apply pw_below_drewN | apply below_drew1) | exact HB.out))) : w.heap.size ≤ gb114)); have n3_ := Aside0.mk ((by rw [hg]; exact (below_size (by repeat (first | (with_reducible first | exact HB.out | apply below_alloc | apply pw_below_drewN | apply below_drew1) | exact HB.out))) : w.heap.size ≤ gb114)); clear HB; have HB := n0_; have BK114 := n1_; have GW114 := n2_; have GE114 := n3_; clear n0_ n1_ n2_ n3_; clear hb hbox hg) | ((with_reducible refine gate_dst (N := 3) rfl ?_); (try (refine gate_guard (by rfl) ?_; dsimp only)); refine box_event ?hg (N := 3) ?hd (cs := #[.bool a1_0, .slice A1_1 l1_1.length c1_1, .string a1_2, .string a1_3, .string a1_4, .int .u64 a1_5, .int .u64 a1_6, .int .u64 a1_7]) (t := 46) ?hr ?_; (case hd => rfl); (case hg => rfl); (case hr => first | (go_simp; done) | (go_simp; rfl)); intro gb115 hg w5 hbox hb; have n0_ := Aside0.mk (blk_below (g := gb114) (o := .cells #[.slice A0_0 l0_0.length c0_0, .bool a0_1, .string a0_2, .string a0_3] 25 (0, 0)) (by (with_reducible repeat (first | refine blk_drewN ?_ _ | refine blk_drew ?_ | refine blk_alloc ?_ _)); exact BK114.out) hb); have n1_ := Aside0.mk (below_step (by repeat (first | (with_reducible first | exact HB.out | apply below_alloc | apply pw_below_drewN | apply below_drew1 | refine below_set ?_ GE114.out) | exact HB.out)) hb); have n2_ := Aside0.mk (hbox); have n3_ := Aside0.mk ((by rw [hg]; exact (below_size (by repeat (first | (with_reducible first | exact HB.out | apply below_alloc | apply pw_below_drewN | apply below_drew1 | refine below_set ?_ GE114.out) | exact HB.out))) : w.heap.size ≤ gb115)); have n4_ := Aside0.mk ((by rw [hg]; exact (below_size (by repeat (first | (with_reducible first | exact HB.out | apply below_alloc | apply pw_below_drewN | apply below_drew1 | refine below_set ?_ GE114.out) | exact HB.out))) : w.heap.size ≤ gb115)); have n5_ := Aside0.mk ((by rw [hg]; exact Nat.ne_of_lt (blk_lt (g := gb114) (o := .cells #[.slice A0_0 l0_0.length c0_0, .bool a0_1, .string a0_2, .string a0_3] 25 (0, 0)) (by (with_reducible repeat (first | refine blk_drewN ?_ _ | refine blk_drew ?_ | refine blk_alloc ?_ _)); exact BK114.out)) : gb114 ≠ gb115)); have n6_ := Aside0.mk ((by rw [hg]; exact Nat.ne_of_gt (blk_lt (g := gb114) (o := .cells #[.slice A0_0 l0_0.length c0_0, .bool a0_1, .string a0_2, .string a0_3] 25 (0, 0)) (by (with_reducible repeat (first | refine blk_drewN ?_ _ | refine blk_drew ?_ | refine blk_alloc ?_ _)); exact BK114.out)) : gb115 ≠ gb114)); clear BK114; clear HB; have BK114 := n0_; have HB := n1_; have BK115 := n2_; have GW115 := n3_; have GE115 := n4_; have NB114_115 := n5_; have NB115_114 := n6_; clear n0_ n1_ n2_ n3_ n4_ n5_ n6_; clear hb hbox hg))
 (try simp only [Act.put, List.setIfInBounds_toArray, List.set_cons_zero, List.set_cons_succ])
 go_cut [52] (fun v52 wc => ∃ (kq : Nat) (x52_2 : Bool), v52 = .bool x52_2 ∧ Aside0 (spec_SameVer.j0 kq x52_2 l0_0 a0_1 a0_2 a0_3 a1_0 l1_1 a1_2 a1_3 a1_4 a1_5 a1_6 a1_7 = some r) ∧ Aside0 (kq ≤ k) ∧ Aside0 (wc.heap[gb114]? = some (.cells #[(.slice A0_0 l0_0.length c0_0), .bool a0_1, .string a0_2, .string a0_3] 25 (0, 0))) ∧ Aside0 (wc.heap[gb115]? = some (.cells #[.bool a1_0, (.slice A1_1 l1_1.length c1_1), .string a1_2, .string a1_3, .string a1_4, .int .u64 a1_5, .int .u64 a1_6, .int .u64 a1_7] 46 (0, 0))) ∧ Aside0 (Below w.heap.size w wc))
 case first =>
  have H := HC3.out
  clear HC3
  by_cases c6 : a1_0 = true
  ·subst c6
   have H1 : (if (l1_1.length : Int) = (l0_0.length : Int) then (if a1_2.toList = a0_2.toList then (if a1_3.toList = a0_3.toList then ((spec_Version_Text.f k l0_0 a0_1 a0_2 a0_3).bind fun t116 => (if a1_4.toList = t116.toList then ((spec_Version_part.f l0_0 a0_1 a0_2 a0_3 0).bind fun t117 => (if a1_5 = t117 then ((spec_Version_part.f l0_0 a0_1 a0_2 a0_3 1).bind fun t118 => (spec_SameVer.j0 k (a1_6 != t118) l0_0 a0_1 a0_2 a0_3 true l1_1 a1_2 a1_3 a1_4 a1_5 a1_6 a1_7)) else (spec_SameVer.j0 k true l0_0 a0_1 a0_2 a0_3 true l1_1 a1_2 a1_3 a1_4 a1_5 a1_6 a1_7))) else (spec_SameVer.j0 k true l0_0 a0_1 a0_2 a0_3 true l1_1 a1_2 a1_3 a1_4 a1_5 a1_6 a1_7))) else (spec_SameVer.j0 k true l0_0 a0_1 a0_2 a0_3 true l1_1 a1_2 a1_3 a1_4 a1_5 a1_6 a1_7)) else (spec_SameVer.j0 k true l0_0 a0_1 a0_2 a0_3 true l1_1 a1_2 a1_3 a1_4 a1_5 a1_6 a1_7)) else (spec_SameVer.j0 k true l0_0 a0_1 a0_2 a0_3 true l1_1 a1_2 a1_3 a1_4 a1_5 a1_6 a1_7)) = some r := by rw [if_pos rfl] at H; exact H
   clear H
   have H := H1
   clear H1
   by_cases c7 : (l1_1.length : Int) = (l0_0.length : Int)
   ·rw [if_pos c7] at H
    have c7b0 : ((l1_1.length : Int) == (l0_0.length : Int)) = true := beq_iff_eq.mpr c7
    have c7b1 : ((l1_1.length : Int) != (l0_0.length : Int)) = false := bne_eq_false_iff_eq.mpr c7
    have c7b2 : (l1_1.length == l0_0.length) = true := by first | simpa using c7 | (simp at c7 ⊢; omega)
    clear c7
    (first | rw [c7b0] | (simp only [i64_w, i32_w]; rw [c7b0]) | skip)
    by_cases c8 : a1_2.toList = a0_2.toList
    ·rw [if_pos c8] at H
     have c8b0 : (a1_2.toList == a0_2.toList) = true := beq_iff_eq.mpr c8
     have c8b1 : (a1_2.toList != a0_2.toList) = false := bne_eq_false_iff_eq.mpr c8
     clear c8
     by_cases c9 : a1_3.toList = a0_3.toList
     ·rw [if_pos c9] at H
      have c9b0 : (a1_3.toList == a0_3.toList) = true := beq_iff_eq.mpr c9
      have c9b1 : (a1_3.toList != a0_3.toList) = false := bne_eq_false_iff_eq.mpr c9
      clear c9
      replace H := Option.bind_eq_some_iff.mp H
      obtain ⟨t116, A100, H⟩ := H
      replace H : (if a1_4.toList = t116.toList then ((spec_Version_part.f l0_0 a0_1 a0_2 a0_3 0).bind fun t117 => (if a1_5 = t117 then ((spec_Version_part.f l0_0 a0_1 a0_2 a0_3 1).bind fun t118 => (spec_SameVer.j0 k (a1_6 != t118) l0_0 a0_1 a0_2 a0_3 true l1_1 a1_2 a1_3 a1_4 a1_5 a1_6 a1_7)) else (spec_SameVer.j0 k true l0_0 a0_1 a0_2 a0_3 true l1_1 a1_2 a1_3 a1_4 a1_5 a1_6 a1_7))) else (spec_SameVer.j0 k true l0_0 a0_1 a0_2 a0_3 true l1_1 a1_2 a1_3 a1_4 a1_5 a1_6 a1_7)) = some r := H
      have A10 := Aside0.mk A100
      clear A100
      by_cases c11 : a1_4.toList = t116.toList
      ·rw [if_pos c11] at H
       have c11b0 : (a1_4.toList == t116.toList) = true := beq_iff_eq.mpr c11
       have c11b1 : (a1_4.toList != t116.toList) = false := bne_eq_false_iff_eq.mpr c11
       clear c11
       replace H := Option.bind_eq_some_iff.mp H
       obtain ⟨t117, A120, H⟩ := H
       replace H : (if a1_5 = t117 then ((spec_Version_part.f l0_0 a0_1 a0_2 a0_3 1).bind fun t118 => (spec_SameVer.j0 k (a1_6 != t118) l0_0 a0_1 a0_2 a0_3 true l1_1 a1_2 a1_3 a1_4 a1_5 a1_6 a1_7)) else (spec_SameVer.j0 k true l0_0 a0_1 a0_2 a0_3 true l1_1 a1_2 a1_3 a1_4 a1_5 a1_6 a1_7)) = some r := H
       have A12 := Aside0.mk A120
       clear A120
       by_cases c13 : a1_5 = t117
       ·rw [if_pos c13] at H
        have c13b0 : (a1_5 == t117) = true := beq_iff_eq.mpr c13
        have c13b1 : (a1_5 != t117) = false := bne_eq_false_iff_eq.mpr c13
        clear c13
        replace H := Option.bind_eq_some_iff.mp H
        obtain ⟨t118, A140, H⟩ := H
        replace H : (spec_SameVer.j0 k (a1_6 != t118) l0_0 a0_1 a0_2 a0_3 true l1_1 a1_2 a1_3 a1_4 a1_5 a1_6 a1_7) = some r := H
        have A14 := Aside0.mk A140
        clear A140
        have H' := Aside0.mk H
        clear H
        try go_wp2
        have n0_ := Aside0.mk (blk_drew BK114.out)
        have n1_ := Aside0.mk (blk_drew BK115.out)
        have n2_ := Aside0.mk (below_drew1 HB.out)
        clear BK114
        clear BK115
        clear HB
        have BK114 := n0_
        have BK115 := n1_
        have HB := n2_
        clear n0_ n1_ n2_
        refine start_ (n := 47) (S := fun w' => w'.cell? ⟨gb115, 0, none⟩ = some (.bool true) ∧ w'.cell? ⟨gb115, 1, none⟩ = some (.slice A1_1 l1_1.length c1_1) ∧ w'.cell? ⟨gb115, 2, none⟩ = some (.string a1_2) ∧ w'.cell? ⟨gb115, 3, none⟩ = some (.string a1_3) ∧ w'.cell? ⟨gb115, 4, none⟩ = some (.string a1_4) ∧ w'.cell? ⟨gb115, 5, none⟩ = some (.int .u64 a1_5) ∧ w'.cell? ⟨gb115, 6, none⟩ = some (.int .u64 a1_6) ∧ w'.cell? ⟨gb115, 7, none⟩ = some (.int .u64 a1_7) ∧ w'.cell? ⟨gb114, 0, none⟩ = some (.slice A0_0 l0_0.length c0_0) ∧ w'.cell? ⟨gb114, 1, none⟩ = some (.bool a0_1) ∧ w'.cell? ⟨gb114, 2, none⟩ = some (.string a0_2) ∧ w'.cell? ⟨gb114, 3, none⟩ = some (.string a0_3)) (ds := []) Qx2_0 (by kernel_rfl) rfl rfl ⟨(blk_cell BK115.out 0).trans rfl, (blk_cell BK115.out 1).trans rfl, (blk_cell BK115.out 2).trans rfl, (blk_cell BK115.out 3).trans rfl, (blk_cell BK115.out 4).trans rfl, (blk_cell BK115.out 5).trans rfl, (blk_cell BK115.out 6).trans rfl, (blk_cell BK115.out 7).trans rfl, (blk_cell BK114.out 0).trans rfl, (blk_cell BK114.out 1).trans rfl, (blk_cell BK114.out 2).trans rfl, (blk_cell BK114.out 3).trans rfl⟩ (fun hHeld => ?_); refine with_tabW spec_SameVer.tab1 spec_SameVer.bits1 (fun HT_ HW_ => ?_)
        generalize w5.drew = w15 at BK114 BK115 HB hHeld ⊢
        refine pure_ (i := 0) (N := some 6) (v := ?_) (a' := ?_) Qx2_1 rfl rfl (any_of HT_.out (by kernel_rfl)) (fun _ _ _ h => h) (Or.inl ⟨by rfl, ?_⟩) ?_ ?_
        rotate_left
        ·intro w'
         go_simp
         with_reducible rfl
        rotate_left
        ·simp only [Act.put, List.setIfInBounds_toArray, List.set_cons_zero, List.set_cons_succ, i64_w, i32_w]
         rfl
        refine take_ (i := 1) (N := some 7) (v := ?_) (a' := ?_) Qx2_2 rfl rfl (take_ofW HT_.out HW_.out (by kernel_rfl)) (fun _ _ _ h => h) (Or.inl ⟨by rfl, ?_⟩) hHeld ?_ ?_
        rotate_left
        ·rintro w' ⟨s0, s1, s2, s3, s4, s5, s6, s7, s8, s9, s10, s11⟩
         go_simp
         with_reducible rfl
        rotate_left
        ·simp only [Act.put, List.setIfInBounds_toArray, List.set_cons_zero, List.set_cons_succ, i64_w, i32_w]
         rfl
        refine pure_ (i := 2) (N := some 8) (v := ?_) (a' := ?_) Qx2_3 rfl rfl (any_of HT_.out (by kernel_rfl)) (fun _ _ _ h => h) (Or.inl ⟨by rfl, ?_⟩) ?_ ?_
        rotate_left
        ·intro w'
         go_simp
         with_reducible rfl
        rotate_left
        ·simp only [Act.put, List.setIfInBounds_toArray, List.set_cons_zero, List.set_cons_succ, i64_w, i32_w]
         rfl
        refine pure_ (i := 3) (N := some 9) (v := ?_) (a' := ?_) Qx2_4 rfl rfl (any_of HT_.out (by kernel_rfl)) (fun _ _ _ h => h) (Or.inl ⟨by rfl, ?_⟩) ?_ ?_
        rotate_left
        ·intro w'
         go_simp
         with_reducible rfl
        rotate_left
        ·simp only [Act.put, List.setIfInBounds_toArray, List.set_cons_zero, List.set_cons_succ, i64_w, i32_w]
         rfl
        refine pure_ (i := 4) (N := some 10) (v := ?_) (a' := ?_) Qx2_5 rfl rfl (any_of HT_.out (by kernel_rfl)) (fun _ _ _ h => h) (Or.inl ⟨by rfl, ?_⟩) ?_ ?_
        rotate_left
        ·intro w'
         go_simp
         with_reducible rfl
        rotate_left
        ·simp only [Act.put, List.setIfInBounds_toArray, List.set_cons_zero, List.set_cons_succ, i64_w, i32_w]
         rfl
        refine pure_ (i := 7) (N := some 13) (v := ?_) (a' := ?_) Qx2_44 rfl rfl (any_of HT_.out (by kernel_rfl)) (fun _ _ _ h => h) (Or.inl ⟨by rfl, ?_⟩) ?_ ?_
        rotate_left
        ·intro w'
         go_simp
         with_reducible rfl
        rotate_left
        ·simp only [Act.put, List.setIfInBounds_toArray, List.set_cons_zero, List.set_cons_succ, i64_w, i32_w]
         rfl
        refine take_ (i := 5) (N := some 11) (v := ?_) (a' := ?_) Qx2_45 rfl rfl (take_ofW HT_.out HW_.out (by kernel_rfl)) (fun _ _ _ h => h) (Or.inl ⟨by rfl, ?_⟩) hHeld ?_ ?_
        rotate_left
        ·rintro w' ⟨s0, s1, s2, s3, s4, s5, s6, s7, s8, s9, s10, s11⟩
         go_simp
         with_reducible rfl
        rotate_left
        ·simp only [Act.put, List.setIfInBounds_toArray, List.set_cons_zero, List.set_cons_succ, i64_w, i32_w]
         rfl
        refine pure_ (i := 6) (N := some 12) (v := ?_) (a' := ?_) Qx2_6 rfl rfl (any_of HT_.out (by kernel_rfl)) (fun _ _ _ h => h) (Or.inl ⟨by rfl, ?_⟩) ?_ ?_
        rotate_left
        ·intro w'
         go_simp
         with_reducible rfl
        rotate_left
        ·simp only [Act.put, List.setIfInBounds_toArray, List.set_cons_zero, List.set_cons_succ, i64_w, i32_w]
         rfl
        refine take_ (i := 8) (N := some 14) (v := ?_) (a' := ?_) Qx2_7 rfl rfl (take_ofW HT_.out HW_.out (by kernel_rfl)) (fun _ _ _ h => h) (Or.inl ⟨by rfl, ?_⟩) hHeld ?_ ?_
        rotate_left
        ·rintro w' ⟨s0, s1, s2, s3, s4, s5, s6, s7, s8, s9, s10, s11⟩
         go_simp
         with_reducible rfl
        rotate_left
        ·simp only [Act.put, List.setIfInBounds_toArray, List.set_cons_zero, List.set_cons_succ, i64_w, i32_w]
         rfl
        refine pure_ (i := 9) (N := some 15) (v := ?_) (a' := ?_) Qx2_8 rfl rfl (any_of HT_.out (by kernel_rfl)) (fun _ _ _ h => h) (Or.inl ⟨by rfl, ?_⟩) ?_ ?_
        rotate_left
        ·intro w'
         go_simp
         with_reducible rfl
        rotate_left
        ·simp only [Act.put, List.setIfInBounds_toArray, List.set_cons_zero, List.set_cons_succ, i64_w, i32_w]
         rfl
        refine pure_ (i := 10) (N := some 16) (v := ?_) (a' := ?_) Qx2_9 rfl rfl (any_of HT_.out (by kernel_rfl)) (fun _ _ _ h => h) (Or.inl ⟨by rfl, ?_⟩) ?_ ?_
        rotate_left
        ·intro w'
         go_simp
         with_reducible rfl
        rotate_left
        ·simp only [Act.put, List.setIfInBounds_toArray, List.set_cons_zero, List.set_cons_succ, i64_w, i32_w]
         rfl
        refine pure_ (i := 11) (N := some 17) (v := ?_) (a' := ?_) Qx2_10 rfl rfl (any_of HT_.out (by kernel_rfl)) (fun _ _ _ h => h) (Or.inl ⟨by rfl, ?_⟩) ?_ ?_
        rotate_left
        ·intro w'
         go_simp
         with_reducible rfl
        rotate_left
        ·simp only [Act.put, List.setIfInBounds_toArray, List.set_cons_zero, List.set_cons_succ, i64_w, i32_w]
         rfl
        refine pure_ (i := 12) (N := some 18) (v := ?_) (a' := ?_) Qx2_11 rfl rfl (any_of HT_.out (by kernel_rfl)) (fun _ _ _ h => h) (Or.inl ⟨by rfl, ?_⟩) ?_ ?_
        rotate_left
        ·intro w'
         go_simp
         with_reducible rfl
        rotate_left
        ·simp only [Act.put, List.setIfInBounds_toArray, List.set_cons_zero, List.set_cons_succ, i64_w, i32_w]
         rfl
        refine pure_ (i := 13) (N := some 19) (v := ?_) (a' := ?_) Qx2_12 rfl rfl (any_of HT_.out (by kernel_rfl)) (fun _ _ _ h => h) (Or.inl ⟨by rfl, ?_⟩) ?_ ?_
        rotate_left
        ·intro w'
         go_simp
         with_reducible rfl
        rotate_left
        ·simp only [Act.put, List.setIfInBounds_toArray, List.set_cons_zero, List.set_cons_succ, i64_w, i32_w]
         rfl
        refine pure_ (i := 15) (N := some 21) (v := ?_) (a' := ?_) Qx2_46 rfl rfl (any_of HT_.out (by kernel_rfl)) (fun _ _ _ h => h) (Or.inl ⟨by rfl, ?_⟩) ?_ ?_
        rotate_left
        ·intro w'
         go_simp
         with_reducible rfl
        rotate_left
        ·simp only [Act.put, List.setIfInBounds_toArray, List.set_cons_zero, List.set_cons_succ, i64_w, i32_w]
         rfl
        refine take_ (i := 14) (N := some 20) (v := ?_) (a' := ?_) Qx2_13 rfl rfl (take_ofW HT_.out HW_.out (by kernel_rfl)) (fun _ _ _ h => h) (Or.inl ⟨by rfl, ?_⟩) hHeld ?_ ?_
        rotate_left
        ·rintro w' ⟨s0, s1, s2, s3, s4, s5, s6, s7, s8, s9, s10, s11⟩
         go_simp
         with_reducible rfl
        rotate_left
        ·simp only [Act.put, List.setIfInBounds_toArray, List.set_cons_zero, List.set_cons_succ, i64_w, i32_w]
         rfl
        refine take_ (i := 16) (N := some 22) (v := ?_) (a' := ?_) Qx2_14 rfl rfl (take_ofW HT_.out HW_.out (by kernel_rfl)) (fun _ _ _ h => h) (Or.inl ⟨by rfl, ?_⟩) hHeld ?_ ?_
        rotate_left
        ·rintro w' ⟨s0, s1, s2, s3, s4, s5, s6, s7, s8, s9, s10, s11⟩
         go_simp
         with_reducible rfl
        rotate_left
        ·simp only [Act.put, List.setIfInBounds_toArray, List.set_cons_zero, List.set_cons_succ, i64_w, i32_w]
         rfl
        refine pure_ (i := 17) (N := some 23) (v := ?_) (a' := ?_) Qx2_15 rfl rfl (any_of HT_.out (by kernel_rfl)) (fun _ _ _ h => h) (Or.inl ⟨by rfl, ?_⟩) ?_ ?_
        rotate_left
        ·intro w'
         go_simp
         with_reducible rfl
        rotate_left
        ·simp only [Act.put, List.setIfInBounds_toArray, List.set_cons_zero, List.set_cons_succ, i64_w, i32_w]
         rfl
        refine pure_ (i := 18) (N := some 24) (v := ?_) (a' := ?_) Qx2_16 rfl rfl (any_of HT_.out (by kernel_rfl)) (fun _ _ _ h => h) (Or.inl ⟨by rfl, ?_⟩) ?_ ?_
        rotate_left
        ·intro w'
         go_simp
         with_reducible rfl
        rotate_left
        ·simp only [Act.put, List.setIfInBounds_toArray, List.set_cons_zero, List.set_cons_succ, i64_w, i32_w]
         rfl
        refine pure_ (i := 19) (N := some 25) (v := ?_) (a' := ?_) Qx2_17 rfl rfl (any_of HT_.out (by kernel_rfl)) (fun _ _ _ h => h) (Or.inl ⟨by rfl, ?_⟩) ?_ ?_
        rotate_left
        ·intro w'
         go_simp
         with_reducible rfl
        rotate_left
        ·simp only [Act.put, List.setIfInBounds_toArray, List.set_cons_zero, List.set_cons_succ, i64_w, i32_w]
         rfl
        refine pure_ (i := 20) (N := some 26) (v := ?_) (a' := ?_) Qx2_18 rfl rfl (any_of HT_.out (by kernel_rfl)) (fun _ _ _ h => h) (Or.inl ⟨by rfl, ?_⟩) ?_ ?_
        rotate_left
        ·intro w'
         go_simp
         with_reducible rfl
        rotate_left
        ·simp only [Act.put, List.setIfInBounds_toArray, List.set_cons_zero, List.set_cons_succ, i64_w, i32_w]
         rfl
        refine pure_ (i := 22) (N := some 28) (v := ?_) (a' := ?_) Qx2_47 rfl rfl (any_of HT_.out (by kernel_rfl)) (fun _ _ _ h => h) (Or.inl ⟨by rfl, ?_⟩) ?_ ?_
        rotate_left
        ·intro w'
         go_simp
         with_reducible rfl
        rotate_left
        ·simp only [Act.put, List.setIfInBounds_toArray, List.set_cons_zero, List.set_cons_succ, i64_w, i32_w]
         rfl
        refine take_ (i := 21) (N := some 27) (v := ?_) (a' := ?_) Qx2_19 rfl rfl (take_ofW HT_.out HW_.out (by kernel_rfl)) (fun _ _ _ h => h) (Or.inl ⟨by rfl, ?_⟩) hHeld ?_ ?_
        rotate_left
        ·rintro w' ⟨s0, s1, s2, s3, s4, s5, s6, s7, s8, s9, s10, s11⟩
         go_simp
         with_reducible rfl
        rotate_left
        ·simp only [Act.put, List.setIfInBounds_toArray, List.set_cons_zero, List.set_cons_succ, i64_w, i32_w]
         rfl
        refine take_ (i := 23) (N := some 29) (v := ?_) (a' := ?_) Qx2_20 rfl rfl (take_ofW HT_.out HW_.out (by kernel_rfl)) (fun _ _ _ h => h) (Or.inl ⟨by rfl, ?_⟩) hHeld ?_ ?_
        rotate_left
        ·rintro w' ⟨s0, s1, s2, s3, s4, s5, s6, s7, s8, s9, s10, s11⟩
         go_simp
         with_reducible rfl
        rotate_left
        ·simp only [Act.put, List.setIfInBounds_toArray, List.set_cons_zero, List.set_cons_succ, i64_w, i32_w]
         rfl
        refine pure_ (i := 24) (N := some 30) (v := ?_) (a' := ?_) Qx2_21 rfl rfl (any_of HT_.out (by kernel_rfl)) (fun _ _ _ h => h) (Or.inl ⟨by rfl, ?_⟩) ?_ ?_
        rotate_left
        ·intro w'
         go_simp
         with_reducible rfl
        rotate_left
        ·simp only [Act.put, List.setIfInBounds_toArray, List.set_cons_zero, List.set_cons_succ, i64_w, i32_w]
         rfl
        refine pure_ (i := 25) (N := some 31) (v := ?_) (a' := ?_) Qx2_22 rfl rfl (any_of HT_.out (by kernel_rfl)) (fun _ _ _ h => h) (Or.inl ⟨by rfl, ?_⟩) ?_ ?_
        rotate_left
        ·intro w'
         go_simp
         with_reducible rfl
        rotate_left
        ·simp only [Act.put, List.setIfInBounds_toArray, List.set_cons_zero, List.set_cons_succ, i64_w, i32_w]
         rfl
        refine pure_ (i := 26) (N := some 32) (v := ?_) (a' := ?_) Qx2_23 rfl rfl (any_of HT_.out (by kernel_rfl)) (fun _ _ _ h => h) (Or.inl ⟨by rfl, ?_⟩) ?_ ?_
        rotate_left
        ·intro w'
         go_simp
         with_reducible rfl
        rotate_left
        ·simp only [Act.put, List.setIfInBounds_toArray, List.set_cons_zero, List.set_cons_succ, i64_w, i32_w]
         rfl
        refine pure_ (i := 27) (N := some 33) (v := ?_) (a' := ?_) Qx2_24 rfl rfl (any_of HT_.out (by kernel_rfl)) (fun _ _ _ h => h) (Or.inl ⟨by rfl, ?_⟩) ?_ ?_
        rotate_left
        ·intro w'
         go_simp
         with_reducible rfl
        rotate_left
        ·simp only [Act.put, List.setIfInBounds_toArray, List.set_cons_zero, List.set_cons_succ, i64_w, i32_w]
         rfl
        refine take_ (i := 28) (N := some 34) (v := ?_) (a' := ?_) Qx2_25 rfl rfl (take_ofW HT_.out HW_.out (by kernel_rfl)) (fun _ _ _ h => h) (Or.inl ⟨by rfl, ?_⟩) hHeld ?_ ?_
        rotate_left
        ·rintro w' ⟨s0, s1, s2, s3, s4, s5, s6, s7, s8, s9, s10, s11⟩
         go_simp
         with_reducible rfl
        rotate_left
        ·simp only [Act.put, List.setIfInBounds_toArray, List.set_cons_zero, List.set_cons_succ, i64_w, i32_w]
         rfl
        refine take_ (i := 29) (N := some 35) (v := ?_) (a' := ?_) Qx2_26 rfl rfl (take_ofW HT_.out HW_.out (by kernel_rfl)) (fun _ _ _ h => h) (Or.inl ⟨by rfl, ?_⟩) hHeld ?_ ?_
        rotate_left
        ·rintro w' ⟨s0, s1, s2, s3, s4, s5, s6, s7, s8, s9, s10, s11⟩
         go_simp
         with_reducible rfl
        rotate_left
        ·simp only [Act.put, List.setIfInBounds_toArray, List.set_cons_zero, List.set_cons_succ, i64_w, i32_w]
         rfl
        refine one_ (i := 30) (N := some 36) Qx2_27 rfl rfl (one_of HT_.out (by kernel_rfl)) (by decide) (fun K hK => ?_)
        refine goes_ Tryd.func15 (by kernel_rfl) rfl #[.agg #[.slice A0_0 l0_0.length c0_0, .bool a0_1, .string a0_2, .string a0_3]] (by rfl) rfl rfl (by (try simp only [List.map_toArray, List.map_cons, List.map_nil]); first | done | rfl | (simp only [List.length_drop, List.length_take]; rfl)) ?_
        with_reducible refine (spec_Version_Text.calls k _ _ l0_0 a0_1 a0_2 a0_3 t116 _ ?side1 ?side2 A10.out).mono ?_
        (case side1 => repeat (first | exact (Kd.C_below HR0_0.out HB.out) | (with_reducible refine Kd.C_alloc ?_ _) | (with_reducible refine Kd.C_drewN ?_ _) | (with_reducible refine Kd.C_drew ?_)))
        (case side2 => exact HC0_0.out)
        rintro e w16 ⟨rfl, hb⟩
        refine ⟨_, rfl, ?_⟩
        have n0_ := Aside0.mk (blk_below (g := gb114) (o := .cells #[.slice A0_0 l0_0.length c0_0, .bool a0_1, .string a0_2, .string a0_3] 25 (0, 0)) (by (with_reducible repeat (first | refine blk_drewN ?_ _ | refine blk_drew ?_ | refine blk_alloc ?_ _)); exact BK114.out) hb)
        have n1_ := Aside0.mk (blk_below (g := gb115) (o := .cells #[.bool true, .slice A1_1 l1_1.length c1_1, .string a1_2, .string a1_3, .string a1_4, .int .u64 a1_5, .int .u64 a1_6, .int .u64 a1_7] 46 (0, 0)) (by (with_reducible repeat (first | refine blk_drewN ?_ _ | refine blk_drew ?_ | refine blk_alloc ?_ _)); exact BK115.out) hb)
        have n2_ := Aside0.mk (below_step (by repeat (first | (with_reducible first | exact HB.out | apply below_alloc | apply pw_below_drewN | apply below_drew1 | refine below_set ?_ GE114.out | refine below_set ?_ GE115.out) | exact HB.out)) hb)
        clear BK114
        clear BK115
        clear HB
        have BK114 := n0_
        have BK115 := n1_
        have HB := n2_
        clear n0_ n1_ n2_
        (try clear hb)
        (try clear hb2)
        (try clear hk)
        (try clear hi)
        refine hK.out _ _ ⟨(blk_cell BK115.out 0).trans rfl, (blk_cell BK115.out 1).trans rfl, (blk_cell BK115.out 2).trans rfl, (blk_cell BK115.out 3).trans rfl, (blk_cell BK115.out 4).trans rfl, (blk_cell BK115.out 5).trans rfl, (blk_cell BK115.out 6).trans rfl, (blk_cell BK115.out 7).trans rfl, (blk_cell BK114.out 0).trans rfl, (blk_cell BK114.out 1).trans rfl, (blk_cell BK114.out 2).trans rfl, (blk_cell BK114.out 3).trans rfl⟩ (fun hHeld => ?_)
        clear hK K
        refine norm_ (a' := ?_) ?_ ?_
        rotate_left
        ·show Act.put _ (some 36) _ = _
         simp only [Act.put, List.setIfInBounds_toArray, List.set_cons_zero, List.set_cons_succ, i64_w, i32_w]
         rfl
        refine pure_ (i := 31) (N := some 37) (v := ?_) (a' := ?_) Qx2_28 rfl rfl (any_of HT_.out (by kernel_rfl)) (fun _ _ _ h => h) (Or.inl ⟨by rfl, ?_⟩) ?_ ?_
        rotate_left
        ·intro w'
         go_simp
         with_reducible rfl
        rotate_left
        ·simp only [Act.put, List.setIfInBounds_toArray, List.set_cons_zero, List.set_cons_succ, i64_w, i32_w]
         rfl
        refine pure_ (i := 32) (N := some 38) (v := ?_) (a' := ?_) Qx2_29 rfl rfl (any_of HT_.out (by kernel_rfl)) (fun _ _ _ h => h) (Or.inl ⟨by rfl, ?_⟩) ?_ ?_
        rotate_left
        ·intro w'
         go_simp
         with_reducible rfl
        rotate_left
        ·simp only [Act.put, List.setIfInBounds_toArray, List.set_cons_zero, List.set_cons_succ, i64_w, i32_w]
         rfl
        refine pure_ (i := 33) (N := some 39) (v := ?_) (a' := ?_) Qx2_30 rfl rfl (any_of HT_.out (by kernel_rfl)) (fun _ _ _ h => h) (Or.inl ⟨by rfl, ?_⟩) ?_ ?_
        rotate_left
        ·intro w'
         go_simp
         with_reducible rfl
        rotate_left
        ·simp only [Act.put, List.setIfInBounds_toArray, List.set_cons_zero, List.set_cons_succ, i64_w, i32_w]
         rfl
        refine pure_ (i := 34) (N := some 40) (v := ?_) (a' := ?_) Qx2_31 rfl rfl (any_of HT_.out (by kernel_rfl)) (fun _ _ _ h => h) (Or.inl ⟨by rfl, ?_⟩) ?_ ?_
        rotate_left
        ·intro w'
         go_simp
         with_reducible rfl
        rotate_left
        ·simp only [Act.put, List.setIfInBounds_toArray, List.set_cons_zero, List.set_cons_succ, i64_w, i32_w]
         rfl
        refine take_ (i := 35) (N := some 41) (v := ?_) (a' := ?_) Qx2_32 rfl rfl (take_ofW HT_.out HW_.out (by kernel_rfl)) (fun _ _ _ h => h) (Or.inl ⟨by rfl, ?_⟩) hHeld ?_ ?_
        rotate_left
        ·rintro w' ⟨s0, s1, s2, s3, s4, s5, s6, s7, s8, s9, s10, s11⟩
         go_simp
         with_reducible rfl
        rotate_left
        ·simp only [Act.put, List.setIfInBounds_toArray, List.set_cons_zero, List.set_cons_succ, i64_w, i32_w]
         rfl
        refine take_ (i := 36) (N := some 42) (v := ?_) (a' := ?_) Qx2_33 rfl rfl (take_ofW HT_.out HW_.out (by kernel_rfl)) (fun _ _ _ h => h) (Or.inl ⟨by rfl, ?_⟩) hHeld ?_ ?_
        rotate_left
        ·rintro w' ⟨s0, s1, s2, s3, s4, s5, s6, s7, s8, s9, s10, s11⟩
         go_simp
         with_reducible rfl
        rotate_left
        ·simp only [Act.put, List.setIfInBounds_toArray, List.set_cons_zero, List.set_cons_succ, i64_w, i32_w]
         rfl
        refine one_ (i := 37) (N := some 43) Qx2_34 rfl rfl (one_of HT_.out (by kernel_rfl)) (by decide) (fun K hK => ?_)
        refine goes_ Tryd.func31 (by kernel_rfl) rfl #[.agg #[.slice A0_0 l0_0.length c0_0, .bool a0_1, .string a0_2, .string a0_3], .int .i64 0] (by rfl) rfl rfl (by (try simp only [List.map_toArray, List.map_cons, List.map_nil]); first | done | rfl | (simp only [List.length_drop, List.length_take]; rfl)) ?_
        with_reducible refine (spec_Version_part.calls _ _ l0_0 a0_1 a0_2 a0_3 0 t117 _ ?side1 ?side2 A12.out).mono ?_
        (case side1 => repeat (first | exact (Kd.C_below HR0_0.out HB.out) | (with_reducible refine Kd.C_alloc ?_ _) | (with_reducible refine Kd.C_drewN ?_ _) | (with_reducible refine Kd.C_drew ?_)))
        (case side2 => exact HC0_0.out)
        rintro e w17 ⟨rfl, hb⟩
        refine ⟨_, rfl, ?_⟩
        have n0_ := Aside0.mk (blk_below (g := gb114) (o := .cells #[.slice A0_0 l0_0.length c0_0, .bool a0_1, .string a0_2, .string a0_3] 25 (0, 0)) (by (with_reducible repeat (first | refine blk_drewN ?_ _ | refine blk_drew ?_ | refine blk_alloc ?_ _)); exact BK114.out) hb)
        have n1_ := Aside0.mk (blk_below (g := gb115) (o := .cells #[.bool true, .slice A1_1 l1_1.length c1_1, .string a1_2, .string a1_3, .string a1_4, .int .u64 a1_5, .int .u64 a1_6, .int .u64 a1_7] 46 (0, 0)) (by (with_reducible repeat (first | refine blk_drewN ?_ _ | refine blk_drew ?_ | refine blk_alloc ?_ _)); exact BK115.out) hb)
        have n2_ := Aside0.mk (below_step (by repeat (first | (with_reducible first | exact HB.out | apply below_alloc | apply pw_below_drewN | apply below_drew1 | refine below_set ?_ GE114.out | refine below_set ?_ GE115.out) | exact HB.out)) hb)
        clear BK114
        clear BK115
        clear HB
        have BK114 := n0_
        have BK115 := n1_
        have HB := n2_
        clear n0_ n1_ n2_
        (try clear hb)
        (try clear hb2)
        (try clear hk)
        (try clear hi)
        refine hK.out _ _ ⟨(blk_cell BK115.out 0).trans rfl, (blk_cell BK115.out 1).trans rfl, (blk_cell BK115.out 2).trans rfl, (blk_cell BK115.out 3).trans rfl, (blk_cell BK115.out 4).trans rfl, (blk_cell BK115.out 5).trans rfl, (blk_cell BK115.out 6).trans rfl, (blk_cell BK115.out 7).trans rfl, (blk_cell BK114.out 0).trans rfl, (blk_cell BK114.out 1).trans rfl, (blk_cell BK114.out 2).trans rfl, (blk_cell BK114.out 3).trans rfl⟩ (fun hHeld => ?_)
        clear hK K
        refine norm_ (a' := ?_) ?_ ?_
        rotate_left
        ·show Act.put _ (some 43) _ = _
         simp only [Act.put, List.setIfInBounds_toArray, List.set_cons_zero, List.set_cons_succ, i64_w, i32_w]
         rfl
        refine pure_ (i := 38) (N := some 44) (v := ?_) (a' := ?_) Qx2_35 rfl rfl (any_of HT_.out (by kernel_rfl)) (fun _ _ _ h => h) (Or.inl ⟨by rfl, ?_⟩) ?_ ?_
        rotate_left
        ·intro w'
         go_simp
         with_reducible rfl
        rotate_left
        ·simp only [Act.put, List.setIfInBounds_toArray, List.set_cons_zero, List.set_cons_succ, i64_w, i32_w]
         rfl
        refine pure_ (i := 39) (N := some 45) (v := ?_) (a' := ?_) Qx2_36 rfl rfl (any_of HT_.out (by kernel_rfl)) (fun _ _ _ h => h) (Or.inl ⟨by rfl, ?_⟩) ?_ ?_
        rotate_left
        ·intro w'
         go_simp
         with_reducible rfl
        rotate_left
        ·simp only [Act.put, List.setIfInBounds_toArray, List.set_cons_zero, List.set_cons_succ, i64_w, i32_w]
         rfl
        refine pure_ (i := 40) (N := some 46) (v := ?_) (a' := ?_) Qx2_37 rfl rfl (any_of HT_.out (by kernel_rfl)) (fun _ _ _ h => h) (Or.inl ⟨by rfl, ?_⟩) ?_ ?_
        rotate_left
        ·intro w'
         go_simp
         with_reducible rfl
        rotate_left
        ·simp only [Act.put, List.setIfInBounds_toArray, List.set_cons_zero, List.set_cons_succ, i64_w, i32_w]
         rfl
        refine pure_ (i := 41) (N := some 47) (v := ?_) (a' := ?_) Qx2_38 rfl rfl (any_of HT_.out (by kernel_rfl)) (fun _ _ _ h => h) (Or.inl ⟨by rfl, ?_⟩) ?_ ?_
        rotate_left
        ·intro w'
         go_simp
         with_reducible rfl
        rotate_left
        ·simp only [Act.put, List.setIfInBounds_toArray, List.set_cons_zero, List.set_cons_succ, i64_w, i32_w]
         rfl
        refine take_ (i := 42) (N := some 48) (v := ?_) (a' := ?_) Qx2_39 rfl rfl (take_ofW HT_.out HW_.out (by kernel_rfl)) (fun _ _ _ h => h) (Or.inl ⟨by rfl, ?_⟩) hHeld ?_ ?_
        rotate_left
        ·rintro w' ⟨s0, s1, s2, s3, s4, s5, s6, s7, s8, s9, s10, s11⟩
         go_simp
         with_reducible rfl
        rotate_left
        ·simp only [Act.put, List.setIfInBounds_toArray, List.set_cons_zero, List.set_cons_succ, i64_w, i32_w]
         rfl
        refine take_ (i := 43) (N := some 49) (v := ?_) (a' := ?_) Qx2_40 rfl rfl (take_ofW HT_.out HW_.out (by kernel_rfl)) (fun _ _ _ h => h) (Or.inl ⟨by rfl, ?_⟩) hHeld ?_ ?_
        rotate_left
        ·rintro w' ⟨s0, s1, s2, s3, s4, s5, s6, s7, s8, s9, s10, s11⟩
         go_simp
         with_reducible rfl
        rotate_left
        ·simp only [Act.put, List.setIfInBounds_toArray, List.set_cons_zero, List.set_cons_succ, i64_w, i32_w]
         rfl
        refine one_ (i := 44) (N := some 50) Qx2_41 rfl rfl (one_of HT_.out (by kernel_rfl)) (by decide) (fun K hK => ?_)
        refine goes_ Tryd.func31 (by kernel_rfl) rfl #[.agg #[.slice A0_0 l0_0.length c0_0, .bool a0_1, .string a0_2, .string a0_3], .int .i64 1] (by rfl) rfl rfl (by (try simp only [List.map_toArray, List.map_cons, List.map_nil]); first | done | rfl | (simp only [List.length_drop, List.length_take]; rfl)) ?_
        with_reducible refine (spec_Version_part.calls _ _ l0_0 a0_1 a0_2 a0_3 1 t118 _ ?side1 ?side2 A14.out).mono ?_
        (case side1 => repeat (first | exact (Kd.C_below HR0_0.out HB.out) | (with_reducible refine Kd.C_alloc ?_ _) | (with_reducible refine Kd.C_drewN ?_ _) | (with_reducible refine Kd.C_drew ?_)))
        (case side2 => exact HC0_0.out)
        rintro e w18 ⟨rfl, hb⟩
        refine ⟨_, rfl, ?_⟩
        have n0_ := Aside0.mk (blk_below (g := gb114) (o := .cells #[.slice A0_0 l0_0.length c0_0, .bool a0_1, .string a0_2, .string a0_3] 25 (0, 0)) (by (with_reducible repeat (first | refine blk_drewN ?_ _ | refine blk_drew ?_ | refine blk_alloc ?_ _)); exact BK114.out) hb)
        have n1_ := Aside0.mk (blk_below (g := gb115) (o := .cells #[.bool true, .slice A1_1 l1_1.length c1_1, .string a1_2, .string a1_3, .string a1_4, .int .u64 a1_5, .int .u64 a1_6, .int .u64 a1_7] 46 (0, 0)) (by (with_reducible repeat (first | refine blk_drewN ?_ _ | refine blk_drew ?_ | refine blk_alloc ?_ _)); exact BK115.out) hb)
        have n2_ := Aside0.mk (below_step (by repeat (first | (with_reducible first | exact HB.out | apply below_alloc | apply pw_below_drewN | apply below_drew1 | refine below_set ?_ GE114.out | refine below_set ?_ GE115.out) | exact HB.out)) hb)
        clear BK114
        clear BK115
        clear HB
        have BK114 := n0_
        have BK115 := n1_
        have HB := n2_
        clear n0_ n1_ n2_
        (try clear hb)
        (try clear hb2)
        (try clear hk)
        (try clear hi)
        refine hK.out _ _ ⟨(blk_cell BK115.out 0).trans rfl, (blk_cell BK115.out 1).trans rfl, (blk_cell BK115.out 2).trans rfl, (blk_cell BK115.out 3).trans rfl, (blk_cell BK115.out 4).trans rfl, (blk_cell BK115.out 5).trans rfl, (blk_cell BK115.out 6).trans rfl, (blk_cell BK115.out 7).trans rfl, (blk_cell BK114.out 0).trans rfl, (blk_cell BK114.out 1).trans rfl, (blk_cell BK114.out 2).trans rfl, (blk_cell BK114.out 3).trans rfl⟩ (fun hHeld => ?_)
        clear hK K
        refine norm_ (a' := ?_) ?_ ?_
        rotate_left
        ·show Act.put _ (some 50) _ = _
         simp only [Act.put, List.setIfInBounds_toArray, List.set_cons_zero, List.set_cons_succ, i64_w, i32_w]
         rfl
        refine pure_ (i := 45) (N := some 51) (v := ?_) (a' := ?_) Qx2_42 rfl rfl (any_of HT_.out (by kernel_rfl)) (fun _ _ _ h => h) (Or.inl ⟨by rfl, ?_⟩) ?_ ?_
        rotate_left
        ·intro w'
         go_simp
         with_reducible rfl
        rotate_left
        ·simp only [Act.put, List.setIfInBounds_toArray, List.set_cons_zero, List.set_cons_succ, i64_w, i32_w]
         rfl
        refine pure_ (i := 46) (N := some 52) (v := ?_) (a' := ?_) Qx2_43 rfl rfl (any_of HT_.out (by kernel_rfl)) (fun _ _ _ h => h) (Or.inl ⟨by rfl, ?_⟩) ?_ ?_
        rotate_left
        ·intro w'
         go_simp
         with_reducible rfl
        rotate_left
        ·simp only [Act.put, List.setIfInBounds_toArray, List.set_cons_zero, List.set_cons_succ, i64_w, i32_w]
         rfl
        refine done_ (done_of HT_.out (by kernel_rfl)) ?_
        try go_wp2
        go_meet
        case rel => exact ⟨_, ((a1_6 != t118)), (by first | rfl | (simp; done) | (simp [*]; done)), H', ⟨by first | omega | exact Nat.le_refl _⟩, ⟨by (with_reducible repeat (first | refine blk_drewN ?_ _ | refine blk_drew ?_ | refine blk_alloc ?_ _)); exact BK114.out⟩, ⟨by (with_reducible repeat (first | refine blk_drewN ?_ _ | refine blk_drew ?_ | refine blk_alloc ?_ _)); exact BK115.out⟩, ⟨by repeat (first | (with_reducible first | exact HB.out | apply below_alloc | apply pw_below_drewN | apply below_drew1 | refine below_set ?_ GE114.out | refine below_set ?_ GE115.out) | exact HB.out)⟩⟩
       ·rw [if_neg c13] at H
        have c13b0 : (a1_5 == t117) = false := beq_eq_false_iff_ne.mpr c13
        have c13b1 : (a1_5 != t117) = true := bne_iff_ne.mpr c13
        have H' := Aside0.mk H
        clear H
        try go_wp2
        have n0_ := Aside0.mk (blk_drew BK114.out)
        have n1_ := Aside0.mk (blk_drew BK115.out)
        have n2_ := Aside0.mk (below_drew1 HB.out)
        clear BK114
        clear BK115
        clear HB
        have BK114 := n0_
        have BK115 := n1_
        have HB := n2_
        clear n0_ n1_ n2_
        refine start_ (n := 47) (S := fun w' => w'.cell? ⟨gb115, 0, none⟩ = some (.bool true) ∧ w'.cell? ⟨gb115, 1, none⟩ = some (.slice A1_1 l1_1.length c1_1) ∧ w'.cell? ⟨gb115, 2, none⟩ = some (.string a1_2) ∧ w'.cell? ⟨gb115, 3, none⟩ = some (.string a1_3) ∧ w'.cell? ⟨gb115, 4, none⟩ = some (.string a1_4) ∧ w'.cell? ⟨gb115, 5, none⟩ = some (.int .u64 a1_5) ∧ w'.cell? ⟨gb115, 6, none⟩ = some (.int .u64 a1_6) ∧ w'.cell? ⟨gb115, 7, none⟩ = some (.int .u64 a1_7) ∧ w'.cell? ⟨gb114, 0, none⟩ = some (.slice A0_0 l0_0.length c0_0) ∧ w'.cell? ⟨gb114, 1, none⟩ = some (.bool a0_1) ∧ w'.cell? ⟨gb114, 2, none⟩ = some (.string a0_2) ∧ w'.cell? ⟨gb114, 3, none⟩ = some (.string a0_3)) (ds := []) Qx2_0 (by kernel_rfl) rfl rfl ⟨(blk_cell BK115.out 0).trans rfl, (blk_cell BK115.out 1).trans rfl, (blk_cell BK115.out 2).trans rfl, (blk_cell BK115.out 3).trans rfl, (blk_cell BK115.out 4).trans rfl, (blk_cell BK115.out 5).trans rfl, (blk_cell BK115.out 6).trans rfl, (blk_cell BK115.out 7).trans rfl, (blk_cell BK114.out 0).trans rfl, (blk_cell BK114.out 1).trans rfl, (blk_cell BK114.out 2).trans rfl, (blk_cell BK114.out 3).trans rfl⟩ (fun hHeld => ?_); refine with_tabW spec_SameVer.tab1 spec_SameVer.bits1 (fun HT_ HW_ => ?_)
        generalize w5.drew = w19 at BK114 BK115 HB hHeld ⊢
        refine pure_ (i := 0) (N := some 6) (v := ?_) (a' := ?_) Qx2_1 rfl rfl (any_of HT_.out (by kernel_rfl)) (fun _ _ _ h => h) (Or.inl ⟨by rfl, ?_⟩) ?_ ?_
        rotate_left
        ·intro w'
         go_simp
         with_reducible rfl
        rotate_left
        ·simp only [Act.put, List.setIfInBounds_toArray, List.set_cons_zero, List.set_cons_succ, i64_w, i32_w]
         rfl
        refine take_ (i := 1) (N := some 7) (v := ?_) (a' := ?_) Qx2_2 rfl rfl (take_ofW HT_.out HW_.out (by kernel_rfl)) (fun _ _ _ h => h) (Or.inl ⟨by rfl, ?_⟩) hHeld ?_ ?_
        rotate_left
        ·rintro w' ⟨s0, s1, s2, s3, s4, s5, s6, s7, s8, s9, s10, s11⟩
         go_simp
         with_reducible rfl
        rotate_left
        ·simp only [Act.put, List.setIfInBounds_toArray, List.set_cons_zero, List.set_cons_succ, i64_w, i32_w]
         rfl
        refine pure_ (i := 2) (N := some 8) (v := ?_) (a' := ?_) Qx2_3 rfl rfl (any_of HT_.out (by kernel_rfl)) (fun _ _ _ h => h) (Or.inl ⟨by rfl, ?_⟩) ?_ ?_
        rotate_left
        ·intro w'
         go_simp
         with_reducible rfl
        rotate_left
        ·simp only [Act.put, List.setIfInBounds_toArray, List.set_cons_zero, List.set_cons_succ, i64_w, i32_w]
         rfl
        refine pure_ (i := 3) (N := some 9) (v := ?_) (a' := ?_) Qx2_4 rfl rfl (any_of HT_.out (by kernel_rfl)) (fun _ _ _ h => h) (Or.inl ⟨by rfl, ?_⟩) ?_ ?_
        rotate_left
        ·intro w'
         go_simp
         with_reducible rfl
        rotate_left
        ·simp only [Act.put, List.setIfInBounds_toArray, List.set_cons_zero, List.set_cons_succ, i64_w, i32_w]
         rfl
        refine pure_ (i := 4) (N := some 10) (v := ?_) (a' := ?_) Qx2_5 rfl rfl (any_of HT_.out (by kernel_rfl)) (fun _ _ _ h => h) (Or.inl ⟨by rfl, ?_⟩) ?_ ?_
        rotate_left
        ·intro w'
         go_simp
         with_reducible rfl
        rotate_left
        ·simp only [Act.put, List.setIfInBounds_toArray, List.set_cons_zero, List.set_cons_succ, i64_w, i32_w]
         rfl
        refine pure_ (i := 7) (N := some 13) (v := ?_) (a' := ?_) Qx2_44 rfl rfl (any_of HT_.out (by kernel_rfl)) (fun _ _ _ h => h) (Or.inl ⟨by rfl, ?_⟩) ?_ ?_
        rotate_left
        ·intro w'
         go_simp
         with_reducible rfl
        rotate_left
        ·simp only [Act.put, List.setIfInBounds_toArray, List.set_cons_zero, List.set_cons_succ, i64_w, i32_w]
         rfl
        refine take_ (i := 5) (N := some 11) (v := ?_) (a' := ?_) Qx2_45 rfl rfl (take_ofW HT_.out HW_.out (by kernel_rfl)) (fun _ _ _ h => h) (Or.inl ⟨by rfl, ?_⟩) hHeld ?_ ?_
        rotate_left
        ·rintro w' ⟨s0, s1, s2, s3, s4, s5, s6, s7, s8, s9, s10, s11⟩
         go_simp
         with_reducible rfl
        rotate_left
        ·simp only [Act.put, List.setIfInBounds_toArray, List.set_cons_zero, List.set_cons_succ, i64_w, i32_w]
         rfl
        refine pure_ (i := 6) (N := some 12) (v := ?_) (a' := ?_) Qx2_6 rfl rfl (any_of HT_.out (by kernel_rfl)) (fun _ _ _ h => h) (Or.inl ⟨by rfl, ?_⟩) ?_ ?_
        rotate_left
        ·intro w'
         go_simp
         with_reducible rfl
        rotate_left
        ·simp only [Act.put, List.setIfInBounds_toArray, List.set_cons_zero, List.set_cons_succ, i64_w, i32_w]
         rfl
        refine take_ (i := 8) (N := some 14) (v := ?_) (a' := ?_) Qx2_7 rfl rfl (take_ofW HT_.out HW_.out (by kernel_rfl)) (fun _ _ _ h => h) (Or.inl ⟨by rfl, ?_⟩) hHeld ?_ ?_
        rotate_left
        ·rintro w' ⟨s0, s1, s2, s3, s4, s5, s6, s7, s8, s9, s10, s11⟩
         go_simp
         with_reducible rfl
        rotate_left
        ·simp only [Act.put, List.setIfInBounds_toArray, List.set_cons_zero, List.set_cons_succ, i64_w, i32_w]
         rfl
        refine pure_ (i := 9) (N := some 15) (v := ?_) (a' := ?_) Qx2_8 rfl rfl (any_of HT_.out (by kernel_rfl)) (fun _ _ _ h => h) (Or.inl ⟨by rfl, ?_⟩) ?_ ?_
        rotate_left
        ·intro w'
         go_simp
         with_reducible rfl
        rotate_left
        ·simp only [Act.put, List.setIfInBounds_toArray, List.set_cons_zero, List.set_cons_succ, i64_w, i32_w]
         rfl
        refine pure_ (i := 10) (N := some 16) (v := ?_) (a' := ?_) Qx2_9 rfl rfl (any_of HT_.out (by kernel_rfl)) (fun _ _ _ h => h) (Or.inl ⟨by rfl, ?_⟩) ?_ ?_
        rotate_left
        ·intro w'
         go_simp
         with_reducible rfl
        rotate_left
        ·simp only [Act.put, List.setIfInBounds_toArray, List.set_cons_zero, List.set_cons_succ, i64_w, i32_w]
         rfl
        refine pure_ (i := 11) (N := some 17) (v := ?_) (a' := ?_) Qx2_10 rfl rfl (any_of HT_.out (by kernel_rfl)) (fun _ _ _ h => h) (Or.inl ⟨by rfl, ?_⟩) ?_ ?_
        rotate_left
        ·intro w'
         go_simp
         with_reducible rfl
        rotate_left
        ·simp only [Act.put, List.setIfInBounds_toArray, List.set_cons_zero, List.set_cons_succ, i64_w, i32_w]
         rfl
        refine pure_ (i := 12) (N := some 18) (v := ?_) (a' := ?_) Qx2_11 rfl rfl (any_of HT_.out (by kernel_rfl)) (fun _ _ _ h => h) (Or.inl ⟨by rfl, ?_⟩) ?_ ?_
        rotate_left
        ·intro w'
         go_simp
         with_reducible rfl
        rotate_left
        ·simp only [Act.put, List.setIfInBounds_toArray, List.set_cons_zero, List.set_cons_succ, i64_w, i32_w]
         rfl
        refine pure_ (i := 13) (N := some 19) (v := ?_) (a' := ?_) Qx2_12 rfl rfl (any_of HT_.out (by kernel_rfl)) (fun _ _ _ h => h) (Or.inl ⟨by rfl, ?_⟩) ?_ ?_
        rotate_left
        ·intro w'
         go_simp
         with_reducible rfl
        rotate_left
        ·simp only [Act.put, List.setIfInBounds_toArray, List.set_cons_zero, List.set_cons_succ, i64_w, i32_w]
         rfl
        refine pure_ (i := 15) (N := some 21) (v := ?_) (a' := ?_) Qx2_46 rfl rfl (any_of HT_.out (by kernel_rfl)) (fun _ _ _ h => h) (Or.inl ⟨by rfl, ?_⟩) ?_ ?_
        rotate_left
        ·intro w'
         go_simp
         with_reducible rfl
        rotate_left
        ·simp only [Act.put, List.setIfInBounds_toArray, List.set_cons_zero, List.set_cons_succ, i64_w, i32_w]
         rfl
        refine take_ (i := 14) (N := some 20) (v := ?_) (a' := ?_) Qx2_13 rfl rfl (take_ofW HT_.out HW_.out (by kernel_rfl)) (fun _ _ _ h => h) (Or.inl ⟨by rfl, ?_⟩) hHeld ?_ ?_
        rotate_left
        ·rintro w' ⟨s0, s1, s2, s3, s4, s5, s6, s7, s8, s9, s10, s11⟩
         go_simp
         with_reducible rfl
        rotate_left
        ·simp only [Act.put, List.setIfInBounds_toArray, List.set_cons_zero, List.set_cons_succ, i64_w, i32_w]
         rfl
        refine take_ (i := 16) (N := some 22) (v := ?_) (a' := ?_) Qx2_14 rfl rfl (take_ofW HT_.out HW_.out (by kernel_rfl)) (fun _ _ _ h => h) (Or.inl ⟨by rfl, ?_⟩) hHeld ?_ ?_
        rotate_left
        ·rintro w' ⟨s0, s1, s2, s3, s4, s5, s6, s7, s8, s9, s10, s11⟩
         go_simp
         with_reducible rfl
        rotate_left
        ·simp only [Act.put, List.setIfInBounds_toArray, List.set_cons_zero, List.set_cons_succ, i64_w, i32_w]
         rfl
        refine pure_ (i := 17) (N := some 23) (v := ?_) (a' := ?_) Qx2_15 rfl rfl (any_of HT_.out (by kernel_rfl)) (fun _ _ _ h => h) (Or.inl ⟨by rfl, ?_⟩) ?_ ?_
        rotate_left
        ·intro w'
         go_simp
         with_reducible rfl
        rotate_left
        ·simp only [Act.put, List.setIfInBounds_toArray, List.set_cons_zero, List.set_cons_succ, i64_w, i32_w]
         rfl
        refine pure_ (i := 18) (N := some 24) (v := ?_) (a' := ?_) Qx2_16 rfl rfl (any_of HT_.out (by kernel_rfl)) (fun _ _ _ h => h) (Or.inl ⟨by rfl, ?_⟩) ?_ ?_
        rotate_left
        ·intro w'
         go_simp
         with_reducible rfl
        rotate_left
        ·simp only [Act.put, List.setIfInBounds_toArray, List.set_cons_zero, List.set_cons_succ, i64_w, i32_w]
         rfl
        refine pure_ (i := 19) (N := some 25) (v := ?_) (a' := ?_) Qx2_17 rfl rfl (any_of HT_.out (by kernel_rfl)) (fun _ _ _ h => h) (Or.inl ⟨by rfl, ?_⟩) ?_ ?_
        rotate_left
        ·intro w'
         go_simp
         with_reducible rfl
        rotate_left
        ·simp only [Act.put, List.setIfInBounds_toArray, List.set_cons_zero, List.set_cons_succ, i64_w, i32_w]
         rfl
        refine pure_ (i := 20) (N := some 26) (v := ?_) (a' := ?_) Qx2_18 rfl rfl (any_of HT_.out (by kernel_rfl)) (fun _ _ _ h => h) (Or.inl ⟨by rfl, ?_⟩) ?_ ?_
        rotate_left
        ·intro w'
         go_simp
         with_reducible rfl
        rotate_left
        ·simp only [Act.put, List.setIfInBounds_toArray, List.set_cons_zero, List.set_cons_succ, i64_w, i32_w]
         rfl
        refine pure_ (i := 22) (N := some 28) (v := ?_) (a' := ?_) Qx2_47 rfl rfl (any_of HT_.out (by kernel_rfl)) (fun _ _ _ h => h) (Or.inl ⟨by rfl, ?_⟩) ?_ ?_
        rotate_left
        ·intro w'
         go_simp
         with_reducible rfl
        rotate_left
        ·simp only [Act.put, List.setIfInBounds_toArray, List.set_cons_zero, List.set_cons_succ, i64_w, i32_w]
         rfl
        refine take_ (i := 21) (N := some 27) (v := ?_) (a' := ?_) Qx2_19 rfl rfl (take_ofW HT_.out HW_.out (by kernel_rfl)) (fun _ _ _ h => h) (Or.inl ⟨by rfl, ?_⟩) hHeld ?_ ?_
        rotate_left
        ·rintro w' ⟨s0, s1, s2, s3, s4, s5, s6, s7, s8, s9, s10, s11⟩
         go_simp
         with_reducible rfl
        rotate_left
        ·simp only [Act.put, List.setIfInBounds_toArray, List.set_cons_zero, List.set_cons_succ, i64_w, i32_w]
         rfl
        refine take_ (i := 23) (N := some 29) (v := ?_) (a' := ?_) Qx2_20 rfl rfl (take_ofW HT_.out HW_.out (by kernel_rfl)) (fun _ _ _ h => h) (Or.inl ⟨by rfl, ?_⟩) hHeld ?_ ?_
        rotate_left
        ·rintro w' ⟨s0, s1, s2, s3, s4, s5, s6, s7, s8, s9, s10, s11⟩
         go_simp
         with_reducible rfl
        rotate_left
        ·simp only [Act.put, List.setIfInBounds_toArray, List.set_cons_zero, List.set_cons_succ, i64_w, i32_w]
         rfl
        refine pure_ (i := 24) (N := some 30) (v := ?_) (a' := ?_) Qx2_21 rfl rfl (any_of HT_.out (by kernel_rfl)) (fun _ _ _ h => h) (Or.inl ⟨by rfl, ?_⟩) ?_ ?_
        rotate_left
        ·intro w'
         go_simp
         with_reducible rfl
        rotate_left
        ·simp only [Act.put, List.setIfInBounds_toArray, List.set_cons_zero, List.set_cons_succ, i64_w, i32_w]
         rfl
        refine pure_ (i := 25) (N := some 31) (v := ?_) (a' := ?_) Qx2_22 rfl rfl (any_of HT_.out (by kernel_rfl)) (fun _ _ _ h => h) (Or.inl ⟨by rfl, ?_⟩) ?_ ?_
        rotate_left
        ·intro w'
         go_simp
         with_reducible rfl
        rotate_left
        ·simp only [Act.put, List.setIfInBounds_toArray, List.set_cons_zero, List.set_cons_succ, i64_w, i32_w]
         rfl
        refine pure_ (i := 26) (N := some 32) (v := ?_) (a' := ?_) Qx2_23 rfl rfl (any_of HT_.out (by kernel_rfl)) (fun _ _ _ h => h) (Or.inl ⟨by rfl, ?_⟩) ?_ ?_
        rotate_left
        ·intro w'
         go_simp
         with_reducible rfl
        rotate_left
        ·simp only [Act.put, List.setIfInBounds_toArray, List.set_cons_zero, List.set_cons_succ, i64_w, i32_w]
         rfl
        refine pure_ (i := 27) (N := some 33) (v := ?_) (a' := ?_) Qx2_24 rfl rfl (any_of HT_.out (by kernel_rfl)) (fun _ _ _ h => h) (Or.inl ⟨by rfl, ?_⟩) ?_ ?_
        rotate_left
        ·intro w'
         go_simp
         with_reducible rfl
        rotate_left
        ·simp only [Act.put, List.setIfInBounds_toArray, List.set_cons_zero, List.set_cons_succ, i64_w, i32_w]
         rfl
        refine take_ (i := 28) (N := some 34) (v := ?_) (a' := ?_) Qx2_25 rfl rfl (take_ofW HT_.out HW_.out (by kernel_rfl)) (fun _ _ _ h => h) (Or.inl ⟨by rfl, ?_⟩) hHeld ?_ ?_
        rotate_left
        ·rintro w' ⟨s0, s1, s2, s3, s4, s5, s6, s7, s8, s9, s10, s11⟩
         go_simp
         with_reducible rfl
        rotate_left
        ·simp only [Act.put, List.setIfInBounds_toArray, List.set_cons_zero, List.set_cons_succ, i64_w, i32_w]
         rfl
        refine take_ (i := 29) (N := some 35) (v := ?_) (a' := ?_) Qx2_26 rfl rfl (take_ofW HT_.out HW_.out (by kernel_rfl)) (fun _ _ _ h => h) (Or.inl ⟨by rfl, ?_⟩) hHeld ?_ ?_
        rotate_left
        ·rintro w' ⟨s0, s1, s2, s3, s4, s5, s6, s7, s8, s9, s10, s11⟩
         go_simp
         with_reducible rfl
        rotate_left
        ·simp only [Act.put, List.setIfInBounds_toArray, List.set_cons_zero, List.set_cons_succ, i64_w, i32_w]
         rfl
        refine one_ (i := 30) (N := some 36) Qx2_27 rfl rfl (one_of HT_.out (by kernel_rfl)) (by decide) (fun K hK => ?_)
        refine goes_ Tryd.func15 (by kernel_rfl) rfl #[.agg #[.slice A0_0 l0_0.length c0_0, .bool a0_1, .string a0_2, .string a0_3]] (by rfl) rfl rfl (by (try simp only [List.map_toArray, List.map_cons, List.map_nil]); first | done | rfl | (simp only [List.length_drop, List.length_take]; rfl)) ?_
        with_reducible refine (spec_Version_Text.calls k _ _ l0_0 a0_1 a0_2 a0_3 t116 _ ?side1 ?side2 A10.out).mono ?_
        (case side1 => repeat (first | exact (Kd.C_below HR0_0.out HB.out) | (with_reducible refine Kd.C_alloc ?_ _) | (with_reducible refine Kd.C_drewN ?_ _) | (with_reducible refine Kd.C_drew ?_)))
        (case side2 => exact HC0_0.out)
        rintro e w20 ⟨rfl, hb⟩
        refine ⟨_, rfl, ?_⟩
        have n0_ := Aside0.mk (blk_below (g := gb114) (o := .cells #[.slice A0_0 l0_0.length c0_0, .bool a0_1, .string a0_2, .string a0_3] 25 (0, 0)) (by (with_reducible repeat (first | refine blk_drewN ?_ _ | refine blk_drew ?_ | refine blk_alloc ?_ _)); exact BK114.out) hb)
        have n1_ := Aside0.mk (blk_below (g := gb115) (o := .cells #[.bool true, .slice A1_1 l1_1.length c1_1, .string a1_2, .string a1_3, .string a1_4, .int .u64 a1_5, .int .u64 a1_6, .int .u64 a1_7] 46 (0, 0)) (by (with_reducible repeat (first | refine blk_drewN ?_ _ | refine blk_drew ?_ | refine blk_alloc ?_ _)); exact BK115.out) hb)
        have n2_ := Aside0.mk (below_step (by repeat (first | (with_reducible first | exact HB.out | apply below_alloc | apply pw_below_drewN | apply below_drew1 | refine below_set ?_ GE114.out | refine below_set ?_ GE115.out) | exact HB.out)) hb)
        clear BK114
        clear BK115
        clear HB
        have BK114 := n0_
        have BK115 := n1_
        have HB := n2_
        clear n0_ n1_ n2_
        (try clear hb)
        (try clear hb2)
        (try clear hk)
        (try clear hi)
        refine hK.out _ _ ⟨(blk_cell BK115.out 0).trans rfl, (blk_cell BK115.out 1).trans rfl, (blk_cell BK115.out 2).trans rfl, (blk_cell BK115.out 3).trans rfl, (blk_cell BK115.out 4).trans rfl, (blk_cell BK115.out 5).trans rfl, (blk_cell BK115.out 6).trans rfl, (blk_cell BK115.out 7).trans rfl, (blk_cell BK114.out 0).trans rfl, (blk_cell BK114.out 1).trans rfl, (blk_cell BK114.out 2).trans rfl, (blk_cell BK114.out 3).trans rfl⟩ (fun hHeld => ?_)
        clear hK K
        refine norm_ (a' := ?_) ?_ ?_
        rotate_left
        ·show Act.put _ (some 36) _ = _
         simp only [Act.put, List.setIfInBounds_toArray, List.set_cons_zero, List.set_cons_succ, i64_w, i32_w]
         rfl
        refine pure_ (i := 31) (N := some 37) (v := ?_) (a' := ?_) Qx2_28 rfl rfl (any_of HT_.out (by kernel_rfl)) (fun _ _ _ h => h) (Or.inl ⟨by rfl, ?_⟩) ?_ ?_
        rotate_left
        ·intro w'
         go_simp
         with_reducible rfl
        rotate_left
        ·simp only [Act.put, List.setIfInBounds_toArray, List.set_cons_zero, List.set_cons_succ, i64_w, i32_w]
         rfl
        refine pure_ (i := 32) (N := some 38) (v := ?_) (a' := ?_) Qx2_29 rfl rfl (any_of HT_.out (by kernel_rfl)) (fun _ _ _ h => h) (Or.inl ⟨by rfl, ?_⟩) ?_ ?_
        rotate_left
        ·intro w'
         go_simp
         with_reducible rfl
        rotate_left
        ·simp only [Act.put, List.setIfInBounds_toArray, List.set_cons_zero, List.set_cons_succ, i64_w, i32_w]
         rfl
        refine pure_ (i := 33) (N := some 39) (v := ?_) (a' := ?_) Qx2_30 rfl rfl (any_of HT_.out (by kernel_rfl)) (fun _ _ _ h => h) (Or.inl ⟨by rfl, ?_⟩) ?_ ?_
        rotate_left
        ·intro w'
         go_simp
         with_reducible rfl
        rotate_left
        ·simp only [Act.put, List.setIfInBounds_toArray, List.set_cons_zero, List.set_cons_succ, i64_w, i32_w]
         rfl
        refine pure_ (i := 34) (N := some 40) (v := ?_) (a' := ?_) Qx2_31 rfl rfl (any_of HT_.out (by kernel_rfl)) (fun _ _ _ h => h) (Or.inl ⟨by rfl, ?_⟩) ?_ ?_
        rotate_left
        ·intro w'
         go_simp
         with_reducible rfl
        rotate_left
        ·simp only [Act.put, List.setIfInBounds_toArray, List.set_cons_zero, List.set_cons_succ, i64_w, i32_w]
         rfl
        refine take_ (i := 35) (N := some 41) (v := ?_) (a' := ?_) Qx2_32 rfl rfl (take_ofW HT_.out HW_.out (by kernel_rfl)) (fun _ _ _ h => h) (Or.inl ⟨by rfl, ?_⟩) hHeld ?_ ?_
        rotate_left
        ·rintro w' ⟨s0, s1, s2, s3, s4, s5, s6, s7, s8, s9, s10, s11⟩
         go_simp
         with_reducible rfl
        rotate_left
        ·simp only [Act.put, List.setIfInBounds_toArray, List.set_cons_zero, List.set_cons_succ, i64_w, i32_w]
         rfl
        refine take_ (i := 36) (N := some 42) (v := ?_) (a' := ?_) Qx2_33 rfl rfl (take_ofW HT_.out HW_.out (by kernel_rfl)) (fun _ _ _ h => h) (Or.inl ⟨by rfl, ?_⟩) hHeld ?_ ?_
        rotate_left
        ·rintro w' ⟨s0, s1, s2, s3, s4, s5, s6, s7, s8, s9, s10, s11⟩
         go_simp
         with_reducible rfl
        rotate_left
        ·simp only [Act.put, List.setIfInBounds_toArray, List.set_cons_zero, List.set_cons_succ, i64_w, i32_w]
         rfl
        refine one_ (i := 37) (N := some 43) Qx2_34 rfl rfl (one_of HT_.out (by kernel_rfl)) (by decide) (fun K hK => ?_)
        refine goes_ Tryd.func31 (by kernel_rfl) rfl #[.agg #[.slice A0_0 l0_0.length c0_0, .bool a0_1, .string a0_2, .string a0_3], .int .i64 0] (by rfl) rfl rfl (by (try simp only [List.map_toArray, List.map_cons, List.map_nil]); first | done | rfl | (simp only [List.length_drop, List.length_take]; rfl)) ?_
        with_reducible refine (spec_Version_part.calls _ _ l0_0 a0_1 a0_2 a0_3 0 t117 _ ?side1 ?side2 A12.out).mono ?_
        (case side1 => repeat (first | exact (Kd.C_below HR0_0.out HB.out) | (with_reducible refine Kd.C_alloc ?_ _) | (with_reducible refine Kd.C_drewN ?_ _) | (with_reducible refine Kd.C_drew ?_)))
        (case side2 => exact HC0_0.out)
        rintro e w21 ⟨rfl, hb⟩
        refine ⟨_, rfl, ?_⟩
        have n0_ := Aside0.mk (blk_below (g := gb114) (o := .cells #[.slice A0_0 l0_0.length c0_0, .bool a0_1, .string a0_2, .string a0_3] 25 (0, 0)) (by (with_reducible repeat (first | refine blk_drewN ?_ _ | refine blk_drew ?_ | refine blk_alloc ?_ _)); exact BK114.out) hb)
        have n1_ := Aside0.mk (blk_below (g := gb115) (o := .cells #[.bool true, .slice A1_1 l1_1.length c1_1, .string a1_2, .string a1_3, .string a1_4, .int .u64 a1_5, .int .u64 a1_6, .int .u64 a1_7] 46 (0, 0)) (by (with_reducible repeat (first | refine blk_drewN ?_ _ | refine blk_drew ?_ | refine blk_alloc ?_ _)); exact BK115.out) hb)
        have n2_ := Aside0.mk (below_step (by repeat (first | (with_reducible first | exact HB.out | apply below_alloc | apply pw_below_drewN | apply below_drew1 | refine below_set ?_ GE114.out | refine below_set ?_ GE115.out) | exact HB.out)) hb)
        clear BK114
        clear BK115
        clear HB
        have BK114 := n0_
        have BK115 := n1_
        have HB := n2_
        clear n0_ n1_ n2_
        (try clear hb)
        (try clear hb2)
        (try clear hk)
        (try clear hi)
        refine hK.out _ _ ⟨(blk_cell BK115.out 0).trans rfl, (blk_cell BK115.out 1).trans rfl, (blk_cell BK115.out 2).trans rfl, (blk_cell BK115.out 3).trans rfl, (blk_cell BK115.out 4).trans rfl, (blk_cell BK115.out 5).trans rfl, (blk_cell BK115.out 6).trans rfl, (blk_cell BK115.out 7).trans rfl, (blk_cell BK114.out 0).trans rfl, (blk_cell BK114.out 1).trans rfl, (blk_cell BK114.out 2).trans rfl, (blk_cell BK114.out 3).trans rfl⟩ (fun hHeld => ?_)
        clear hK K
        refine norm_ (a' := ?_) ?_ ?_
        rotate_left
        ·show Act.put _ (some 43) _ = _
         simp only [Act.put, List.setIfInBounds_toArray, List.set_cons_zero, List.set_cons_succ, i64_w, i32_w]
         rfl
        refine pure_ (i := 38) (N := some 44) (v := ?_) (a' := ?_) Qx2_35 rfl rfl (any_of HT_.out (by kernel_rfl)) (fun _ _ _ h => h) (Or.inl ⟨by rfl, ?_⟩) ?_ ?_
        rotate_left
        ·intro w'
         go_simp
         with_reducible rfl
        rotate_left
        ·simp only [Act.put, List.setIfInBounds_toArray, List.set_cons_zero, List.set_cons_succ, i64_w, i32_w]
         rfl
        refine pure_ (i := 39) (N := some 45) (v := ?_) (a' := ?_) Qx2_36 rfl rfl (any_of HT_.out (by kernel_rfl)) (fun _ _ _ h => h) (Or.inl ⟨by rfl, ?_⟩) ?_ ?_
        rotate_left
        ·intro w'
         go_simp
         with_reducible rfl
        rotate_left
        ·simp only [Act.put, List.setIfInBounds_toArray, List.set_cons_zero, List.set_cons_succ, i64_w, i32_w]
         rfl
        refine pure_ (i := 40) (N := some 46) (v := ?_) (a' := ?_) Qx2_37 rfl rfl (any_of HT_.out (by kernel_rfl)) (fun _ _ _ h => h) (Or.inl ⟨by rfl, ?_⟩) ?_ ?_
        rotate_left
        ·intro w'
         go_simp
         with_reducible rfl
        rotate_left
        ·simp only [Act.put, List.setIfInBounds_toArray, List.set_cons_zero, List.set_cons_succ, i64_w, i32_w]
         rfl
        refine pure_ (i := 41) (N := some 47) (v := undef) (a' := ?_) Qx2_38 rfl rfl (any_of HT_.out (by kernel_rfl)) (fun _ _ _ h => h) (Or.inr ⟨by rfl, rfl⟩) ?_ ?_
        rotate_left
        ·simp only [Act.put, List.setIfInBounds_toArray, List.set_cons_zero, List.set_cons_succ, i64_w, i32_w]
         rfl
        refine pure_ (i := 42) (N := some 48) (v := undef) (a' := ?_) Qx2_39 rfl rfl (any_of HT_.out (by kernel_rfl)) (fun _ _ _ h => h) (Or.inr ⟨by rfl, rfl⟩) ?_ ?_
        rotate_left
        ·simp only [Act.put, List.setIfInBounds_toArray, List.set_cons_zero, List.set_cons_succ, i64_w, i32_w]
         rfl
        refine pure_ (i := 43) (N := some 49) (v := undef) (a' := ?_) Qx2_40 rfl rfl (any_of HT_.out (by kernel_rfl)) (fun _ _ _ h => h) (Or.inr ⟨by rfl, rfl⟩) ?_ ?_
        rotate_left
        ·simp only [Act.put, List.setIfInBounds_toArray, List.set_cons_zero, List.set_cons_succ, i64_w, i32_w]
         rfl
        refine pure_ (i := 44) (N := some 50) (v := undef) (a' := ?_) Qx2_41 rfl rfl (any_of HT_.out (by kernel_rfl)) (fun _ _ _ h => h) (Or.inr ⟨by rfl, rfl⟩) ?_ ?_
        rotate_left
        ·simp only [Act.put, List.setIfInBounds_toArray, List.set_cons_zero, List.set_cons_succ, i64_w, i32_w]
         rfl
        refine pure_ (i := 45) (N := some 51) (v := undef) (a' := ?_) Qx2_42 rfl rfl (any_of HT_.out (by kernel_rfl)) (fun _ _ _ h => h) (Or.inr ⟨by rfl, rfl⟩) ?_ ?_
        rotate_left
        ·simp only [Act.put, List.setIfInBounds_toArray, List.set_cons_zero, List.set_cons_succ, i64_w, i32_w]
         rfl
        refine pure_ (i := 46) (N := some 52) (v := ?_) (a' := ?_) Qx2_43 rfl rfl (any_of HT_.out (by kernel_rfl)) (fun _ _ _ h => h) (Or.inl ⟨by rfl, ?_⟩) ?_ ?_
        rotate_left
        ·intro w'
         go_simp
         with_reducible rfl
        rotate_left
        ·simp only [Act.put, List.setIfInBounds_toArray, List.set_cons_zero, List.set_cons_succ, i64_w, i32_w]
         rfl
        refine done_ (done_of HT_.out (by kernel_rfl)) ?_
        try go_wp2
        go_meet
        case rel => exact ⟨_, (true), (by first | rfl | (simp; done) | (simp [*]; done)), H', ⟨by first | omega | exact Nat.le_refl _⟩, ⟨by (with_reducible repeat (first | refine blk_drewN ?_ _ | refine blk_drew ?_ | refine blk_alloc ?_ _)); exact BK114.out⟩, ⟨by (with_reducible repeat (first | refine blk_drewN ?_ _ | refine blk_drew ?_ | refine blk_alloc ?_ _)); exact BK115.out⟩, ⟨by repeat (first | (with_reducible first | exact HB.out | apply below_alloc | apply pw_below_drewN | apply below_drew1 | refine below_set ?_ GE114.out | refine below_set ?_ GE115.out) | exact HB.out)⟩⟩
      ·rw [if_neg c11] at H
       have c11b0 : (a1_4.toList == t116.toList) = false := beq_eq_false_iff_ne.mpr c11
       have c11b1 : (a1_4.toList != t116.toList) = true := bne_iff_ne.mpr c11
       have H' := Aside0.mk H
       clear H
       try go_wp2
       have n0_ := Aside0.mk (blk_drew BK114.out)
       have n1_ := Aside0.mk (blk_drew BK115.out)
       have n2_ := Aside0.mk (below_drew1 HB.out)
       clear BK114
       clear BK115
       clear HB
       have BK114 := n0_
       have BK115 := n1_
       have HB := n2_
       clear n0_ n1_ n2_
       refine start_ (n := 47) (S := fun w' => w'.cell? ⟨gb115, 0, none⟩ = some (.bool true) ∧ w'.cell? ⟨gb115, 1, none⟩ = some (.slice A1_1 l1_1.length c1_1) ∧ w'.cell? ⟨gb115, 2, none⟩ = some (.string a1_2) ∧ w'.cell? ⟨gb115, 3, none⟩ = some (.string a1_3) ∧ w'.cell? ⟨gb115, 4, none⟩ = some (.string a1_4) ∧ w'.cell? ⟨gb115, 5, none⟩ = some (.int .u64 a1_5) ∧ w'.cell? ⟨gb115, 6, none⟩ = some (.int .u64 a1_6) ∧ w'.cell? ⟨gb115, 7, none⟩ = some (.int .u64 a1_7) ∧ w'.cell? ⟨gb114, 0, none⟩ = some (.slice A0_0 l0_0.length c0_0) ∧ w'.cell? ⟨gb114, 1, none⟩ = some (.bool a0_1) ∧ w'.cell? ⟨gb114, 2, none⟩ = some (.string a0_2) ∧ w'.cell? ⟨gb114, 3, none⟩ = some (.string a0_3)) (ds := []) Qx2_0 (by kernel_rfl) rfl rfl ⟨(blk_cell BK115.out 0).trans rfl, (blk_cell BK115.out 1).trans rfl, (blk_cell BK115.out 2).trans rfl, (blk_cell BK115.out 3).trans rfl, (blk_cell BK115.out 4).trans rfl, (blk_cell BK115.out 5).trans rfl, (blk_cell BK115.out 6).trans rfl, (blk_cell BK115.out 7).trans rfl, (blk_cell BK114.out 0).trans rfl, (blk_cell BK114.out 1).trans rfl, (blk_cell BK114.out 2).trans rfl, (blk_cell BK114.out 3).trans rfl⟩ (fun hHeld => ?_); refine with_tabW spec_SameVer.tab1 spec_SameVer.bits1 (fun HT_ HW_ => ?_)
       generalize w5.drew = w22 at BK114 BK115 HB hHeld ⊢
       refine pure_ (i := 0) (N := some 6) (v := ?_) (a' := ?_) Qx2_1 rfl rfl (any_of HT_.out (by kernel_rfl)) (fun _ _ _ h => h) (Or.inl ⟨by rfl, ?_⟩) ?_ ?_
       rotate_left
       ·intro w'
        go_simp
        with_reducible rfl
       rotate_left
       ·simp only [Act.put, List.setIfInBounds_toArray, List.set_cons_zero, List.set_cons_succ, i64_w, i32_w]
        rfl
       refine take_ (i := 1) (N := some 7) (v := ?_) (a' := ?_) Qx2_2 rfl rfl (take_ofW HT_.out HW_.out (by kernel_rfl)) (fun _ _ _ h => h) (Or.inl ⟨by rfl, ?_⟩) hHeld ?_ ?_
       rotate_left
       ·rintro w' ⟨s0, s1, s2, s3, s4, s5, s6, s7, s8, s9, s10, s11⟩
        go_simp
        with_reducible rfl
       rotate_left
       ·simp only [Act.put, List.setIfInBounds_toArray, List.set_cons_zero, List.set_cons_succ, i64_w, i32_w]
        rfl
       refine pure_ (i := 2) (N := some 8) (v := ?_) (a' := ?_) Qx2_3 rfl rfl (any_of HT_.out (by kernel_rfl)) (fun _ _ _ h => h) (Or.inl ⟨by rfl, ?_⟩) ?_ ?_
       rotate_left
       ·intro w'
        go_simp
        with_reducible rfl
       rotate_left
       ·simp only [Act.put, List.setIfInBounds_toArray, List.set_cons_zero, List.set_cons_succ, i64_w, i32_w]
        rfl
       refine pure_ (i := 3) (N := some 9) (v := ?_) (a' := ?_) Qx2_4 rfl rfl (any_of HT_.out (by kernel_rfl)) (fun _ _ _ h => h) (Or.inl ⟨by rfl, ?_⟩) ?_ ?_
       rotate_left
       ·intro w'
        go_simp
        with_reducible rfl
       rotate_left
       ·simp only [Act.put, List.setIfInBounds_toArray, List.set_cons_zero, List.set_cons_succ, i64_w, i32_w]
        rfl
       refine pure_ (i := 4) (N := some 10) (v := ?_) (a' := ?_) Qx2_5 rfl rfl (any_of HT_.out (by kernel_rfl)) (fun _ _ _ h => h) (Or.inl ⟨by rfl, ?_⟩) ?_ ?_
       rotate_left
       ·intro w'
        go_simp
        with_reducible rfl
       rotate_left
       ·simp only [Act.put, List.setIfInBounds_toArray, List.set_cons_zero, List.set_cons_succ, i64_w, i32_w]
        rfl
       refine pure_ (i := 7) (N := some 13) (v := ?_) (a' := ?_) Qx2_44 rfl rfl (any_of HT_.out (by kernel_rfl)) (fun _ _ _ h => h) (Or.inl ⟨by rfl, ?_⟩) ?_ ?_
       rotate_left
       ·intro w'
        go_simp
        with_reducible rfl
       rotate_left
       ·simp only [Act.put, List.setIfInBounds_toArray, List.set_cons_zero, List.set_cons_succ, i64_w, i32_w]
        rfl
       refine take_ (i := 5) (N := some 11) (v := ?_) (a' := ?_) Qx2_45 rfl rfl (take_ofW HT_.out HW_.out (by kernel_rfl)) (fun _ _ _ h => h) (Or.inl ⟨by rfl, ?_⟩) hHeld ?_ ?_
       rotate_left
       ·rintro w' ⟨s0, s1, s2, s3, s4, s5, s6, s7, s8, s9, s10, s11⟩
        go_simp
        with_reducible rfl
       rotate_left
       ·simp only [Act.put, List.setIfInBounds_toArray, List.set_cons_zero, List.set_cons_succ, i64_w, i32_w]
        rfl
       refine pure_ (i := 6) (N := some 12) (v := ?_) (a' := ?_) Qx2_6 rfl rfl (any_of HT_.out (by kernel_rfl)) (fun _ _ _ h => h) (Or.inl ⟨by rfl, ?_⟩) ?_ ?_
       rotate_left
       ·intro w'
        go_simp
        with_reducible rfl
       rotate_left
       ·simp only [Act.put, List.setIfInBounds_toArray, List.set_cons_zero, List.set_cons_succ, i64_w, i32_w]
        rfl
       refine take_ (i := 8) (N := some 14) (v := ?_) (a' := ?_) Qx2_7 rfl rfl (take_ofW HT_.out HW_.out (by kernel_rfl)) (fun _ _ _ h => h) (Or.inl ⟨by rfl, ?_⟩) hHeld ?_ ?_
       rotate_left
       ·rintro w' ⟨s0, s1, s2, s3, s4, s5, s6, s7, s8, s9, s10, s11⟩
        go_simp
        with_reducible rfl
       rotate_left
       ·simp only [Act.put, List.setIfInBounds_toArray, List.set_cons_zero, List.set_cons_succ, i64_w, i32_w]
        rfl
       refine pure_ (i := 9) (N := some 15) (v := ?_) (a' := ?_) Qx2_8 rfl rfl (any_of HT_.out (by kernel_rfl)) (fun _ _ _ h => h) (Or.inl ⟨by rfl, ?_⟩) ?_ ?_
       rotate_left
       ·intro w'
        go_simp
        with_reducible rfl
       rotate_left
       ·simp only [Act.put, List.setIfInBounds_toArray, List.set_cons_zero, List.set_cons_succ, i64_w, i32_w]
        rfl
       refine pure_ (i := 10) (N := some 16) (v := ?_) (a' := ?_) Qx2_9 rfl rfl (any_of HT_.out (by kernel_rfl)) (fun _ _ _ h => h) (Or.inl ⟨by rfl, ?_⟩) ?_ ?_
       rotate_left
       ·intro w'
        go_simp
        with_reducible rfl
       rotate_left
       ·simp only [Act.put, List.setIfInBounds_toArray, List.set_cons_zero, List.set_cons_succ, i64_w, i32_w]
        rfl
       refine pure_ (i := 11) (N := some 17) (v := ?_) (a' := ?_) Qx2_10 rfl rfl (any_of HT_.out (by kernel_rfl)) (fun _ _ _ h => h) (Or.inl ⟨by rfl, ?_⟩) ?_ ?_
       rotate_left
       ·intro w'
        go_simp
        with_reducible rfl
       rotate_left
       ·simp only [Act.put, List.setIfInBounds_toArray, List.set_cons_zero, List.set_cons_succ, i64_w, i32_w]
        rfl
       refine pure_ (i := 12) (N := some 18) (v := ?_) (a' := ?_) Qx2_11 rfl rfl (any_of HT_.out (by kernel_rfl)) (fun _ _ _ h => h) (Or.inl ⟨by rfl, ?_⟩) ?_ ?_
       rotate_left
       ·intro w'
        go_simp
        with_reducible rfl
       rotate_left
       ·simp only [Act.put, List.setIfInBounds_toArray, List.set_cons_zero, List.set_cons_succ, i64_w, i32_w]
        rfl
       refine pure_ (i := 13) (N := some 19) (v := ?_) (a' := ?_) Qx2_12 rfl rfl (any_of HT_.out (by kernel_rfl)) (fun _ _ _ h => h) (Or.inl ⟨by rfl, ?_⟩) ?_ ?_
       rotate_left
       ·intro w'
        go_simp
        with_reducible rfl
       rotate_left
       ·simp only [Act.put, List.setIfInBounds_toArray, List.set_cons_zero, List.set_cons_succ, i64_w, i32_w]
        rfl
       refine pure_ (i := 15) (N := some 21) (v := ?_) (a' := ?_) Qx2_46 rfl rfl (any_of HT_.out (by kernel_rfl)) (fun _ _ _ h => h) (Or.inl ⟨by rfl, ?_⟩) ?_ ?_
       rotate_left
       ·intro w'
        go_simp
        with_reducible rfl
       rotate_left
       ·simp only [Act.put, List.setIfInBounds_toArray, List.set_cons_zero, List.set_cons_succ, i64_w, i32_w]
        rfl
       refine take_ (i := 14) (N := some 20) (v := ?_) (a' := ?_) Qx2_13 rfl rfl (take_ofW HT_.out HW_.out (by kernel_rfl)) (fun _ _ _ h => h) (Or.inl ⟨by rfl, ?_⟩) hHeld ?_ ?_
       rotate_left
       ·rintro w' ⟨s0, s1, s2, s3, s4, s5, s6, s7, s8, s9, s10, s11⟩
        go_simp
        with_reducible rfl
       rotate_left
       ·simp only [Act.put, List.setIfInBounds_toArray, List.set_cons_zero, List.set_cons_succ, i64_w, i32_w]
        rfl
       refine take_ (i := 16) (N := some 22) (v := ?_) (a' := ?_) Qx2_14 rfl rfl (take_ofW HT_.out HW_.out (by kernel_rfl)) (fun _ _ _ h => h) (Or.inl ⟨by rfl, ?_⟩) hHeld ?_ ?_
       rotate_left
       ·rintro w' ⟨s0, s1, s2, s3, s4, s5, s6, s7, s8, s9, s10, s11⟩
        go_simp
        with_reducible rfl
       rotate_left
       ·simp only [Act.put, List.setIfInBounds_toArray, List.set_cons_zero, List.set_cons_succ, i64_w, i32_w]
        rfl
       refine pure_ (i := 17) (N := some 23) (v := ?_) (a' := ?_) Qx2_15 rfl rfl (any_of HT_.out (by kernel_rfl)) (fun _ _ _ h => h) (Or.inl ⟨by rfl, ?_⟩) ?_ ?_
       rotate_left
       ·intro w'
        go_simp
        with_reducible rfl
       rotate_left
       ·simp only [Act.put, List.setIfInBounds_toArray, List.set_cons_zero, List.set_cons_succ, i64_w, i32_w]
        rfl
       refine pure_ (i := 18) (N := some 24) (v := ?_) (a' := ?_) Qx2_16 rfl rfl (any_of HT_.out (by kernel_rfl)) (fun _ _ _ h => h) (Or.inl ⟨by rfl, ?_⟩) ?_ ?_
       rotate_left
       ·intro w'
        go_simp
        with_reducible rfl
       rotate_left
       ·simp only [Act.put, List.setIfInBounds_toArray, List.set_cons_zero, List.set_cons_succ, i64_w, i32_w]
        rfl
       refine pure_ (i := 19) (N := some 25) (v := ?_) (a' := ?_) Qx2_17 rfl rfl (any_of HT_.out (by kernel_rfl)) (fun _ _ _ h => h) (Or.inl ⟨by rfl, ?_⟩) ?_ ?_
       rotate_left
       ·intro w'
        go_simp
        with_reducible rfl
       rotate_left
       ·simp only [Act.put, List.setIfInBounds_toArray, List.set_cons_zero, List.set_cons_succ, i64_w, i32_w]
        rfl
       refine pure_ (i := 20) (N := some 26) (v := ?_) (a' := ?_) Qx2_18 rfl rfl (any_of HT_.out (by kernel_rfl)) (fun _ _ _ h => h) (Or.inl ⟨by rfl, ?_⟩) ?_ ?_
       rotate_left
       ·intro w'
        go_simp
        with_reducible rfl
       rotate_left
       ·simp only [Act.put, List.setIfInBounds_toArray, List.set_cons_zero, List.set_cons_succ, i64_w, i32_w]
        rfl
       refine pure_ (i := 22) (N := some 28) (v := ?_) (a' := ?_) Qx2_47 rfl rfl (any_of HT_.out (by kernel_rfl)) (fun _ _ _ h => h) (Or.inl ⟨by rfl, ?_⟩) ?_ ?_
       rotate_left
       ·intro w'
        go_simp
        with_reducible rfl
       rotate_left
       ·simp only [Act.put, List.setIfInBounds_toArray, List.set_cons_zero, List.set_cons_succ, i64_w, i32_w]
        rfl
       refine take_ (i := 21) (N := some 27) (v := ?_) (a' := ?_) Qx2_19 rfl rfl (take_ofW HT_.out HW_.out (by kernel_rfl)) (fun _ _ _ h => h) (Or.inl ⟨by rfl, ?_⟩) hHeld ?_ ?_
       rotate_left
       ·rintro w' ⟨s0, s1, s2, s3, s4, s5, s6, s7, s8, s9, s10, s11⟩
        go_simp
        with_reducible rfl
       rotate_left
       ·simp only [Act.put, List.setIfInBounds_toArray, List.set_cons_zero, List.set_cons_succ, i64_w, i32_w]
        rfl
       refine take_ (i := 23) (N := some 29) (v := ?_) (a' := ?_) Qx2_20 rfl rfl (take_ofW HT_.out HW_.out (by kernel_rfl)) (fun _ _ _ h => h) (Or.inl ⟨by rfl, ?_⟩) hHeld ?_ ?_
       rotate_left
       ·rintro w' ⟨s0, s1, s2, s3, s4, s5, s6, s7, s8, s9, s10, s11⟩
        go_simp
        with_reducible rfl
       rotate_left
       ·simp only [Act.put, List.setIfInBounds_toArray, List.set_cons_zero, List.set_cons_succ, i64_w, i32_w]
        rfl
       refine pure_ (i := 24) (N := some 30) (v := ?_) (a' := ?_) Qx2_21 rfl rfl (any_of HT_.out (by kernel_rfl)) (fun _ _ _ h => h) (Or.inl ⟨by rfl, ?_⟩) ?_ ?_
       rotate_left
       ·intro w'
        go_simp
        with_reducible rfl
       rotate_left
       ·simp only [Act.put, List.setIfInBounds_toArray, List.set_cons_zero, List.set_cons_succ, i64_w, i32_w]
        rfl
       refine pure_ (i := 25) (N := some 31) (v := ?_) (a' := ?_) Qx2_22 rfl rfl (any_of HT_.out (by kernel_rfl)) (fun _ _ _ h => h) (Or.inl ⟨by rfl, ?_⟩) ?_ ?_
       rotate_left
       ·intro w'
        go_simp
        with_reducible rfl
       rotate_left
       ·simp only [Act.put, List.setIfInBounds_toArray, List.set_cons_zero, List.set_cons_succ, i64_w, i32_w]
        rfl
       refine pure_ (i := 26) (N := some 32) (v := ?_) (a' := ?_) Qx2_23 rfl rfl (any_of HT_.out (by kernel_rfl)) (fun _ _ _ h => h) (Or.inl ⟨by rfl, ?_⟩) ?_ ?_
       rotate_left
       ·intro w'
        go_simp
        with_reducible rfl
       rotate_left
       ·simp only [Act.put, List.setIfInBounds_toArray, List.set_cons_zero, List.set_cons_succ, i64_w, i32_w]
        rfl
       refine pure_ (i := 27) (N := some 33) (v := ?_) (a' := ?_) Qx2_24 rfl rfl (any_of HT_.out (by kernel_rfl)) (fun _ _ _ h => h) (Or.inl ⟨by rfl, ?_⟩) ?_ ?_
       rotate_left
       ·intro w'
        go_simp
        with_reducible rfl
       rotate_left
       ·simp only [Act.put, List.setIfInBounds_toArray, List.set_cons_zero, List.set_cons_succ, i64_w, i32_w]
        rfl
       refine take_ (i := 28) (N := some 34) (v := ?_) (a' := ?_) Qx2_25 rfl rfl (take_ofW HT_.out HW_.out (by kernel_rfl)) (fun _ _ _ h => h) (Or.inl ⟨by rfl, ?_⟩) hHeld ?_ ?_
       rotate_left
       ·rintro w' ⟨s0, s1, s2, s3, s4, s5, s6, s7, s8, s9, s10, s11⟩
        go_simp
        with_reducible rfl
       rotate_left
       ·simp only [Act.put, List.setIfInBounds_toArray, List.set_cons_zero, List.set_cons_succ, i64_w, i32_w]
        rfl
       refine take_ (i := 29) (N := some 35) (v := ?_) (a' := ?_) Qx2_26 rfl rfl (take_ofW HT_.out HW_.out (by kernel_rfl)) (fun _ _ _ h => h) (Or.inl ⟨by rfl, ?_⟩) hHeld ?_ ?_
       rotate_left
       ·rintro w' ⟨s0, s1, s2, s3, s4, s5, s6, s7, s8, s9, s10, s11⟩
        go_simp
        with_reducible rfl
       rotate_left
       ·simp only [Act.put, List.setIfInBounds_toArray, List.set_cons_zero, List.set_cons_succ, i64_w, i32_w]
        rfl
       refine one_ (i := 30) (N := some 36) Qx2_27 rfl rfl (one_of HT_.out (by kernel_rfl)) (by decide) (fun K hK => ?_)
       refine goes_ Tryd.func15 (by kernel_rfl) rfl #[.agg #[.slice A0_0 l0_0.length c0_0, .bool a0_1, .string a0_2, .string a0_3]] (by rfl) rfl rfl (by (try simp only [List.map_toArray, List.map_cons, List.map_nil]); first | done | rfl | (simp only [List.length_drop, List.length_take]; rfl)) ?_
       with_reducible refine (spec_Version_Text.calls k _ _ l0_0 a0_1 a0_2 a0_3 t116 _ ?side1 ?side2 A10.out).mono ?_
       (case side1 => repeat (first | exact (Kd.C_below HR0_0.out HB.out) | (with_reducible refine Kd.C_alloc ?_ _) | (with_reducible refine Kd.C_drewN ?_ _) | (with_reducible refine Kd.C_drew ?_)))
       (case side2 => exact HC0_0.out)
       rintro e w23 ⟨rfl, hb⟩
       refine ⟨_, rfl, ?_⟩
       have n0_ := Aside0.mk (blk_below (g := gb114) (o := .cells #[.slice A0_0 l0_0.length c0_0, .bool a0_1, .string a0_2, .string a0_3] 25 (0, 0)) (by (with_reducible repeat (first | refine blk_drewN ?_ _ | refine blk_drew ?_ | refine blk_alloc ?_ _)); exact BK114.out) hb)
       have n1_ := Aside0.mk (blk_below (g := gb115) (o := .cells #[.bool true, .slice A1_1 l1_1.length c1_1, .string a1_2, .string a1_3, .string a1_4, .int .u64 a1_5, .int .u64 a1_6, .int .u64 a1_7] 46 (0, 0)) (by (with_reducible repeat (first | refine blk_drewN ?_ _ | refine blk_drew ?_ | refine blk_alloc ?_ _)); exact BK115.out) hb)
       have n2_ := Aside0.mk (below_step (by repeat (first | (with_reducible first | exact HB.out | apply below_alloc | apply pw_below_drewN | apply below_drew1 | refine below_set ?_ GE114.out | refine below_set ?_ GE115.out) | exact HB.out)) hb)
       clear BK114
       clear BK115
       clear HB
       have BK114 := n0_
       have BK115 := n1_
       have HB := n2_
       clear n0_ n1_ n2_
       (try clear hb)
       (try clear hb2)
       (try clear hk)
       (try clear hi)
       refine hK.out _ _ ⟨(blk_cell BK115.out 0).trans rfl, (blk_cell BK115.out 1).trans rfl, (blk_cell BK115.out 2).trans rfl, (blk_cell BK115.out 3).trans rfl, (blk_cell BK115.out 4).trans rfl, (blk_cell BK115.out 5).trans rfl, (blk_cell BK115.out 6).trans rfl, (blk_cell BK115.out 7).trans rfl, (blk_cell BK114.out 0).trans rfl, (blk_cell BK114.out 1).trans rfl, (blk_cell BK114.out 2).trans rfl, (blk_cell BK114.out 3).trans rfl⟩ (fun hHeld => ?_)
       clear hK K
       refine norm_ (a' := ?_) ?_ ?_
       rotate_left
       ·show Act.put _ (some 36) _ = _
        simp only [Act.put, List.setIfInBounds_toArray, List.set_cons_zero, List.set_cons_succ, i64_w, i32_w]
        rfl
       refine pure_ (i := 31) (N := some 37) (v := ?_) (a' := ?_) Qx2_28 rfl rfl (any_of HT_.out (by kernel_rfl)) (fun _ _ _ h => h) (Or.inl ⟨by rfl, ?_⟩) ?_ ?_
       rotate_left
       ·intro w'
        go_simp
        with_reducible rfl
       rotate_left
       ·simp only [Act.put, List.setIfInBounds_toArray, List.set_cons_zero, List.set_cons_succ, i64_w, i32_w]
        rfl
       refine pure_ (i := 32) (N := some 38) (v := ?_) (a' := ?_) Qx2_29 rfl rfl (any_of HT_.out (by kernel_rfl)) (fun _ _ _ h => h) (Or.inl ⟨by rfl, ?_⟩) ?_ ?_
       rotate_left
       ·intro w'
        go_simp
        with_reducible rfl
       rotate_left
       ·simp only [Act.put, List.setIfInBounds_toArray, List.set_cons_zero, List.set_cons_succ, i64_w, i32_w]
        rfl
       refine pure_ (i := 33) (N := some 39) (v := ?_) (a' := ?_) Qx2_30 rfl rfl (any_of HT_.out (by kernel_rfl)) (fun _ _ _ h => h) (Or.inl ⟨by rfl, ?_⟩) ?_ ?_
       rotate_left
       ·intro w'
        go_simp
        with_reducible rfl
       rotate_left
       ·simp only [Act.put, List.setIfInBounds_toArray, List.set_cons_zero, List.set_cons_succ, i64_w, i32_w]
        rfl
       refine pure_ (i := 34) (N := some 40) (v := undef) (a' := ?_) Qx2_31 rfl rfl (any_of HT_.out (by kernel_rfl)) (fun _ _ _ h => h) (Or.inr ⟨by rfl, rfl⟩) ?_ ?_
       rotate_left
       ·simp only [Act.put, List.setIfInBounds_toArray, List.set_cons_zero, List.set_cons_succ, i64_w, i32_w]
        rfl
       refine pure_ (i := 35) (N := some 41) (v := undef) (a' := ?_) Qx2_32 rfl rfl (any_of HT_.out (by kernel_rfl)) (fun _ _ _ h => h) (Or.inr ⟨by rfl, rfl⟩) ?_ ?_
       rotate_left
       ·simp only [Act.put, List.setIfInBounds_toArray, List.set_cons_zero, List.set_cons_succ, i64_w, i32_w]
        rfl
       refine pure_ (i := 36) (N := some 42) (v := undef) (a' := ?_) Qx2_33 rfl rfl (any_of HT_.out (by kernel_rfl)) (fun _ _ _ h => h) (Or.inr ⟨by rfl, rfl⟩) ?_ ?_
       rotate_left
       ·simp only [Act.put, List.setIfInBounds_toArray, List.set_cons_zero, List.set_cons_succ, i64_w, i32_w]
        rfl
       refine pure_ (i := 37) (N := some 43) (v := undef) (a' := ?_) Qx2_34 rfl rfl (any_of HT_.out (by kernel_rfl)) (fun _ _ _ h => h) (Or.inr ⟨by rfl, rfl⟩) ?_ ?_
       rotate_left
       ·simp only [Act.put, List.setIfInBounds_toArray, List.set_cons_zero, List.set_cons_succ, i64_w, i32_w]
        rfl
       refine pure_ (i := 38) (N := some 44) (v := undef) (a' := ?_) Qx2_35 rfl rfl (any_of HT_.out (by kernel_rfl)) (fun _ _ _ h => h) (Or.inr ⟨by rfl, rfl⟩) ?_ ?_
       rotate_left
       ·simp only [Act.put, List.setIfInBounds_toArray, List.set_cons_zero, List.set_cons_succ, i64_w, i32_w]
        rfl
       refine pure_ (i := 39) (N := some 45) (v := ?_) (a' := ?_) Qx2_36 rfl rfl (any_of HT_.out (by kernel_rfl)) (fun _ _ _ h => h) (Or.inl ⟨by rfl, ?_⟩) ?_ ?_
       rotate_left
       ·intro w'
        go_simp
        with_reducible rfl
       rotate_left
       ·simp only [Act.put, List.setIfInBounds_toArray, List.set_cons_zero, List.set_cons_succ, i64_w, i32_w]
        rfl
       refine pure_ (i := 40) (N := some 46) (v := ?_) (a' := ?_) Qx2_37 rfl rfl (any_of HT_.out (by kernel_rfl)) (fun _ _ _ h => h) (Or.inl ⟨by rfl, ?_⟩) ?_ ?_
       rotate_left
       ·intro w'
        go_simp
        with_reducible rfl
       rotate_left
       ·simp only [Act.put, List.setIfInBounds_toArray, List.set_cons_zero, List.set_cons_succ, i64_w, i32_w]
        rfl
       refine pure_ (i := 41) (N := some 47) (v := undef) (a' := ?_) Qx2_38 rfl rfl (any_of HT_.out (by kernel_rfl)) (fun _ _ _ h => h) (Or.inr ⟨by rfl, rfl⟩) ?_ ?_
       rotate_left
       ·simp only [Act.put, List.setIfInBounds_toArray, List.set_cons_zero, List.set_cons_succ, i64_w, i32_w]
        rfl
       refine pure_ (i := 42) (N := some 48) (v := undef) (a' := ?_) Qx2_39 rfl rfl (any_of HT_.out (by kernel_rfl)) (fun _ _ _ h => h) (Or.inr ⟨by rfl, rfl⟩) ?_ ?_
       rotate_left
       ·simp only [Act.put, List.setIfInBounds_toArray, List.set_cons_zero, List.set_cons_succ, i64_w, i32_w]
        rfl
       refine pure_ (i := 43) (N := some 49) (v := undef) (a' := ?_) Qx2_40 rfl rfl (any_of HT_.out (by kernel_rfl)) (fun _ _ _ h => h) (Or.inr ⟨by rfl, rfl⟩) ?_ ?_
       rotate_left
       ·simp only [Act.put, List.setIfInBounds_toArray, List.set_cons_zero, List.set_cons_succ, i64_w, i32_w]
        rfl
       refine pure_ (i := 44) (N := some 50) (v := undef) (a' := ?_) Qx2_41 rfl rfl (any_of HT_.out (by kernel_rfl)) (fun _ _ _ h => h) (Or.inr ⟨by rfl, rfl⟩) ?_ ?_
       rotate_left
       ·simp only [Act.put, List.setIfInBounds_toArray, List.set_cons_zero, List.set_cons_succ, i64_w, i32_w]
        rfl
       refine pure_ (i := 45) (N := some 51) (v := undef) (a' := ?_) Qx2_42 rfl rfl (any_of HT_.out (by kernel_rfl)) (fun _ _ _ h => h) (Or.inr ⟨by rfl, rfl⟩) ?_ ?_
       rotate_left
       ·simp only [Act.put, List.setIfInBounds_toArray, List.set_cons_zero, List.set_cons_succ, i64_w, i32_w]
        rfl
       refine pure_ (i := 46) (N := some 52) (v := ?_) (a' := ?_) Qx2_43 rfl rfl (any_of HT_.out (by kernel_rfl)) (fun _ _ _ h => h) (Or.inl ⟨by rfl, ?_⟩) ?_ ?_
       rotate_left
       ·intro w'
        go_simp
        with_reducible rfl
       rotate_left
       ·simp only [Act.put, List.setIfInBounds_toArray, List.set_cons_zero, List.set_cons_succ, i64_w, i32_w]
        rfl
       refine done_ (done_of HT_.out (by kernel_rfl)) ?_
       try go_wp2
       go_meet
       case rel => exact ⟨_, (true), (by first | rfl | (simp; done) | (simp [*]; done)), H', ⟨by first | omega | exact Nat.le_refl _⟩, ⟨by (with_reducible repeat (first | refine blk_drewN ?_ _ | refine blk_drew ?_ | refine blk_alloc ?_ _)); exact BK114.out⟩, ⟨by (with_reducible repeat (first | refine blk_drewN ?_ _ | refine blk_drew ?_ | refine blk_alloc ?_ _)); exact BK115.out⟩, ⟨by repeat (first | (with_reducible first | exact HB.out | apply below_alloc | apply pw_below_drewN | apply below_drew1 | refine below_set ?_ GE114.out | refine below_set ?_ GE115.out) | exact HB.out)⟩⟩
     ·rw [if_neg c9] at H
      have c9b0 : (a1_3.toList == a0_3.toList) = false := beq_eq_false_iff_ne.mpr c9
      have c9b1 : (a1_3.toList != a0_3.toList) = true := bne_iff_ne.mpr c9
      have H' := Aside0.mk H
      clear H
      try go_wp2
      have n0_ := Aside0.mk (blk_drew BK114.out)
      have n1_ := Aside0.mk (blk_drew BK115.out)
      have n2_ := Aside0.mk (below_drew1 HB.out)
      clear BK114
      clear BK115
      clear HB
      have BK114 := n0_
      have BK115 := n1_
      have HB := n2_
      clear n0_ n1_ n2_
      refine start_ (n := 47) (S := fun w' => w'.cell? ⟨gb115, 0, none⟩ = some (.bool true) ∧ w'.cell? ⟨gb115, 1, none⟩ = some (.slice A1_1 l1_1.length c1_1) ∧ w'.cell? ⟨gb115, 2, none⟩ = some (.string a1_2) ∧ w'.cell? ⟨gb115, 3, none⟩ = some (.string a1_3) ∧ w'.cell? ⟨gb115, 4, none⟩ = some (.string a1_4) ∧ w'.cell? ⟨gb115, 5, none⟩ = some (.int .u64 a1_5) ∧ w'.cell? ⟨gb115, 6, none⟩ = some (.int .u64 a1_6) ∧ w'.cell? ⟨gb115, 7, none⟩ = some (.int .u64 a1_7) ∧ w'.cell? ⟨gb114, 0, none⟩ = some (.slice A0_0 l0_0.length c0_0) ∧ w'.cell? ⟨gb114, 1, none⟩ = some (.bool a0_1) ∧ w'.cell? ⟨gb114, 2, none⟩ = some (.string a0_2) ∧ w'.cell? ⟨gb114, 3, none⟩ = some (.string a0_3)) (ds := []) Qx2_0 (by kernel_rfl) rfl rfl ⟨(blk_cell BK115.out 0).trans rfl, (blk_cell BK115.out 1).trans rfl, (blk_cell BK115.out 2).trans rfl, (blk_cell BK115.out 3).trans rfl, (blk_cell BK115.out 4).trans rfl, (blk_cell BK115.out 5).trans rfl, (blk_cell BK115.out 6).trans rfl, (blk_cell BK115.out 7).trans rfl, (blk_cell BK114.out 0).trans rfl, (blk_cell BK114.out 1).trans rfl, (blk_cell BK114.out 2).trans rfl, (blk_cell BK114.out 3).trans rfl⟩ (fun hHeld => ?_); refine with_tabW spec_SameVer.tab1 spec_SameVer.bits1 (fun HT_ HW_ => ?_)
      generalize w5.drew = w24 at BK114 BK115 HB hHeld ⊢
      refine pure_ (i := 0) (N := some 6) (v := ?_) (a' := ?_) Qx2_1 rfl rfl (any_of HT_.out (by kernel_rfl)) (fun _ _ _ h => h) (Or.inl ⟨by rfl, ?_⟩) ?_ ?_
      rotate_left
      ·intro w'
       go_simp
       with_reducible rfl
      rotate_left
      ·simp only [Act.put, List.setIfInBounds_toArray, List.set_cons_zero, List.set_cons_succ, i64_w, i32_w]
       rfl
      refine take_ (i := 1) (N := some 7) (v := ?_) (a' := ?_) Qx2_2 rfl rfl (take_ofW HT_.out HW_.out (by kernel_rfl)) (fun _ _ _ h => h) (Or.inl ⟨by rfl, ?_⟩) hHeld ?_ ?_
      rotate_left
      ·rintro w' ⟨s0, s1, s2, s3, s4, s5, s6, s7, s8, s9, s10, s11⟩
       go_simp
       with_reducible rfl
      rotate_left
      ·simp only [Act.put, List.setIfInBounds_toArray, List.set_cons_zero, List.set_cons_succ, i64_w, i32_w]
       rfl
      refine pure_ (i := 2) (N := some 8) (v := ?_) (a' := ?_) Qx2_3 rfl rfl (any_of HT_.out (by kernel_rfl)) (fun _ _ _ h => h) (Or.inl ⟨by rfl, ?_⟩) ?_ ?_
      rotate_left
      ·intro w'
       go_simp
       with_reducible rfl
      rotate_left
      ·simp only [Act.put, List.setIfInBounds_toArray, List.set_cons_zero, List.set_cons_succ, i64_w, i32_w]
       rfl
      refine pure_ (i := 3) (N := some 9) (v := ?_) (a' := ?_) Qx2_4 rfl rfl (any_of HT_.out (by kernel_rfl)) (fun _ _ _ h => h) (Or.inl ⟨by rfl, ?_⟩) ?_ ?_
      rotate_left
      ·intro w'
       go_simp
       with_reducible rfl
      rotate_left
      ·simp only [Act.put, List.setIfInBounds_toArray, List.set_cons_zero, List.set_cons_succ, i64_w, i32_w]
       rfl
      refine pure_ (i := 4) (N := some 10) (v := ?_) (a' := ?_) Qx2_5 rfl rfl (any_of HT_.out (by kernel_rfl)) (fun _ _ _ h => h) (Or.inl ⟨by rfl, ?_⟩) ?_ ?_
      rotate_left
      ·intro w'
       go_simp
       with_reducible rfl
      rotate_left
      ·simp only [Act.put, List.setIfInBounds_toArray, List.set_cons_zero, List.set_cons_succ, i64_w, i32_w]
       rfl
      refine pure_ (i := 7) (N := some 13) (v := ?_) (a' := ?_) Qx2_44 rfl rfl (any_of HT_.out (by kernel_rfl)) (fun _ _ _ h => h) (Or.inl ⟨by rfl, ?_⟩) ?_ ?_
      rotate_left
      ·intro w'
       go_simp
       with_reducible rfl
      rotate_left
      ·simp only [Act.put, List.setIfInBounds_toArray, List.set_cons_zero, List.set_cons_succ, i64_w, i32_w]
       rfl
      refine take_ (i := 5) (N := some 11) (v := ?_) (a' := ?_) Qx2_45 rfl rfl (take_ofW HT_.out HW_.out (by kernel_rfl)) (fun _ _ _ h => h) (Or.inl ⟨by rfl, ?_⟩) hHeld ?_ ?_
      rotate_left
      ·rintro w' ⟨s0, s1, s2, s3, s4, s5, s6, s7, s8, s9, s10, s11⟩
       go_simp
       with_reducible rfl
      rotate_left
      ·simp only [Act.put, List.setIfInBounds_toArray, List.set_cons_zero, List.set_cons_succ, i64_w, i32_w]
       rfl
      refine pure_ (i := 6) (N := some 12) (v := ?_) (a' := ?_) Qx2_6 rfl rfl (any_of HT_.out (by kernel_rfl)) (fun _ _ _ h => h) (Or.inl ⟨by rfl, ?_⟩) ?_ ?_
      rotate_left
      ·intro w'
       go_simp
       with_reducible rfl
      rotate_left
      ·simp only [Act.put, List.setIfInBounds_toArray, List.set_cons_zero, List.set_cons_succ, i64_w, i32_w]
       rfl
      refine take_ (i := 8) (N := some 14) (v := ?_) (a' := ?_) Qx2_7 rfl rfl (take_ofW HT_.out HW_.out (by kernel_rfl)) (fun _ _ _ h => h) (Or.inl ⟨by rfl, ?_⟩) hHeld ?_ ?_
      rotate_left
      ·rintro w' ⟨s0, s1, s2, s3, s4, s5, s6, s7, s8, s9, s10, s11⟩
       go_simp
       with_reducible rfl
      rotate_left
      ·simp only [Act.put, List.setIfInBounds_toArray, List.set_cons_zero, List.set_cons_succ, i64_w, i32_w]
       rfl
      refine pure_ (i := 9) (N := some 15) (v := ?_) (a' := ?_) Qx2_8 rfl rfl (any_of HT_.out (by kernel_rfl)) (fun _ _ _ h => h) (Or.inl ⟨by rfl, ?_⟩) ?_ ?_
      rotate_left
      ·intro w'
       go_simp
       with_reducible rfl
      rotate_left
      ·simp only [Act.put, List.setIfInBounds_toArray, List.set_cons_zero, List.set_cons_succ, i64_w, i32_w]
       rfl
      refine pure_ (i := 10) (N := some 16) (v := ?_) (a' := ?_) Qx2_9 rfl rfl (any_of HT_.out (by kernel_rfl)) (fun _ _ _ h => h) (Or.inl ⟨by rfl, ?_⟩) ?_ ?_
      rotate_left
      ·intro w'
       go_simp
       with_reducible rfl
      rotate_left
      ·simp only [Act.put, List.setIfInBounds_toArray, List.set_cons_zero, List.set_cons_succ, i64_w, i32_w]
       rfl
      refine pure_ (i := 11) (N := some 17) (v := ?_) (a' := ?_) Qx2_10 rfl rfl (any_of HT_.out (by kernel_rfl)) (fun _ _ _ h => h) (Or.inl ⟨by rfl, ?_⟩) ?_ ?_
      rotate_left
      ·intro w'
       go_simp
       with_reducible rfl
      rotate_left
      ·simp only [Act.put, List.setIfInBounds_toArray, List.set_cons_zero, List.set_cons_succ, i64_w, i32_w]
       rfl
      refine pure_ (i := 12) (N := some 18) (v := ?_) (a' := ?_) Qx2_11 rfl rfl (any_of HT_.out (by kernel_rfl)) (fun _ _ _ h => h) (Or.inl ⟨by rfl, ?_⟩) ?_ ?_
      rotate_left
      ·intro w'
       go_simp
       with_reducible rfl
      rotate_left
      ·simp only [Act.put, List.setIfInBounds_toArray, List.set_cons_zero, List.set_cons_succ, i64_w, i32_w]
       rfl
      refine pure_ (i := 13) (N := some 19) (v := ?_) (a' := ?_) Qx2_12 rfl rfl (any_of HT_.out (by kernel_rfl)) (fun _ _ _ h => h) (Or.inl ⟨by rfl, ?_⟩) ?_ ?_
      rotate_left
      ·intro w'
       go_simp
       with_reducible rfl
      rotate_left
      ·simp only [Act.put, List.setIfInBounds_toArray, List.set_cons_zero, List.set_cons_succ, i64_w, i32_w]
       rfl
      refine pure_ (i := 15) (N := some 21) (v := ?_) (a' := ?_) Qx2_46 rfl rfl (any_of HT_.out (by kernel_rfl)) (fun _ _ _ h => h) (Or.inl ⟨by rfl, ?_⟩) ?_ ?_
      rotate_left
      ·intro w'
       go_simp
       with_reducible rfl
      rotate_left
      ·simp only [Act.put, List.setIfInBounds_toArray, List.set_cons_zero, List.set_cons_succ, i64_w, i32_w]
       rfl
      refine take_ (i := 14) (N := some 20) (v := ?_) (a' := ?_) Qx2_13 rfl rfl (take_ofW HT_.out HW_.out (by kernel_rfl)) (fun _ _ _ h => h) (Or.inl ⟨by rfl, ?_⟩) hHeld ?_ ?_
      rotate_left
      ·rintro w' ⟨s0, s1, s2, s3, s4, s5, s6, s7, s8, s9, s10, s11⟩
       go_simp
       with_reducible rfl
      rotate_left
      ·simp only [Act.put, List.setIfInBounds_toArray, List.set_cons_zero, List.set_cons_succ, i64_w, i32_w]
       rfl
      refine take_ (i := 16) (N := some 22) (v := ?_) (a' := ?_) Qx2_14 rfl rfl (take_ofW HT_.out HW_.out (by kernel_rfl)) (fun _ _ _ h => h) (Or.inl ⟨by rfl, ?_⟩) hHeld ?_ ?_
      rotate_left
      ·rintro w' ⟨s0, s1, s2, s3, s4, s5, s6, s7, s8, s9, s10, s11⟩
       go_simp
       with_reducible rfl
      rotate_left
      ·simp only [Act.put, List.setIfInBounds_toArray, List.set_cons_zero, List.set_cons_succ, i64_w, i32_w]
       rfl
      refine pure_ (i := 17) (N := some 23) (v := ?_) (a' := ?_) Qx2_15 rfl rfl (any_of HT_.out (by kernel_rfl)) (fun _ _ _ h => h) (Or.inl ⟨by rfl, ?_⟩) ?_ ?_
      rotate_left
      ·intro w'
       go_simp
       with_reducible rfl
      rotate_left
      ·simp only [Act.put, List.setIfInBounds_toArray, List.set_cons_zero, List.set_cons_succ, i64_w, i32_w]
       rfl
      refine pure_ (i := 18) (N := some 24) (v := ?_) (a' := ?_) Qx2_16 rfl rfl (any_of HT_.out (by kernel_rfl)) (fun _ _ _ h => h) (Or.inl ⟨by rfl, ?_⟩) ?_ ?_
      rotate_left
      ·intro w'
       go_simp
       with_reducible rfl
      rotate_left
      ·simp only [Act.put, List.setIfInBounds_toArray, List.set_cons_zero, List.set_cons_succ, i64_w, i32_w]
       rfl
      refine pure_ (i := 19) (N := some 25) (v := ?_) (a' := ?_) Qx2_17 rfl rfl (any_of HT_.out (by kernel_rfl)) (fun _ _ _ h => h) (Or.inl ⟨by rfl, ?_⟩) ?_ ?_
      rotate_left
      ·intro w'
       go_simp
       with_reducible rfl
      rotate_left
      ·simp only [Act.put, List.setIfInBounds_toArray, List.set_cons_zero, List.set_cons_succ, i64_w, i32_w]
       rfl
      refine pure_ (i := 20) (N := some 26) (v := ?_) (a' := ?_) Qx2_18 rfl rfl (any_of HT_.out (by kernel_rfl)) (fun _ _ _ h => h) (Or.inl ⟨by rfl, ?_⟩) ?_ ?_
      rotate_left
      ·intro w'
       go_simp
       with_reducible rfl
      rotate_left
      ·simp only [Act.put, List.setIfInBounds_toArray, List.set_cons_zero, List.set_cons_succ, i64_w, i32_w]
       rfl
      refine pure_ (i := 22) (N := some 28) (v := ?_) (a' := ?_) Qx2_47 rfl rfl (any_of HT_.out (by kernel_rfl)) (fun _ _ _ h => h) (Or.inl ⟨by rfl, ?_⟩) ?_ ?_
      rotate_left
      ·intro w'
       go_simp
       with_reducible rfl
      rotate_left
      ·simp only [Act.put, List.setIfInBounds_toArray, List.set_cons_zero, List.set_cons_succ, i64_w, i32_w]
       rfl
      refine take_ (i := 21) (N := some 27) (v := ?_) (a' := ?_) Qx2_19 rfl rfl (take_ofW HT_.out HW_.out (by kernel_rfl)) (fun _ _ _ h => h) (Or.inl ⟨by rfl, ?_⟩) hHeld ?_ ?_
      rotate_left
      ·rintro w' ⟨s0, s1, s2, s3, s4, s5, s6, s7, s8, s9, s10, s11⟩
       go_simp
       with_reducible rfl
      rotate_left
      ·simp only [Act.put, List.setIfInBounds_toArray, List.set_cons_zero, List.set_cons_succ, i64_w, i32_w]
       rfl
      refine take_ (i := 23) (N := some 29) (v := ?_) (a' := ?_) Qx2_20 rfl rfl (take_ofW HT_.out HW_.out (by kernel_rfl)) (fun _ _ _ h => h) (Or.inl ⟨by rfl, ?_⟩) hHeld ?_ ?_
      rotate_left
      ·rintro w' ⟨s0, s1, s2, s3, s4, s5, s6, s7, s8, s9, s10, s11⟩
       go_simp
       with_reducible rfl
      rotate_left
      ·simp only [Act.put, List.setIfInBounds_toArray, List.set_cons_zero, List.set_cons_succ, i64_w, i32_w]
       rfl
      refine pure_ (i := 24) (N := some 30) (v := ?_) (a' := ?_) Qx2_21 rfl rfl (any_of HT_.out (by kernel_rfl)) (fun _ _ _ h => h) (Or.inl ⟨by rfl, ?_⟩) ?_ ?_
      rotate_left
      ·intro w'
       go_simp
       with_reducible rfl
      rotate_left
      ·simp only [Act.put, List.setIfInBounds_toArray, List.set_cons_zero, List.set_cons_succ, i64_w, i32_w]
       rfl
      refine pure_ (i := 25) (N := some 31) (v := ?_) (a' := ?_) Qx2_22 rfl rfl (any_of HT_.out (by kernel_rfl)) (fun _ _ _ h => h) (Or.inl ⟨by rfl, ?_⟩) ?_ ?_
      rotate_left
      ·intro w'
       go_simp
       with_reducible rfl
      rotate_left
      ·simp only [Act.put, List.setIfInBounds_toArray, List.set_cons_zero, List.set_cons_succ, i64_w, i32_w]
       rfl
      refine pure_ (i := 26) (N := some 32) (v := ?_) (a' := ?_) Qx2_23 rfl rfl (any_of HT_.out (by kernel_rfl)) (fun _ _ _ h => h) (Or.inl ⟨by rfl, ?_⟩) ?_ ?_
      rotate_left
      ·intro w'
       go_simp
       with_reducible rfl
      rotate_left
      ·simp only [Act.put, List.setIfInBounds_toArray, List.set_cons_zero, List.set_cons_succ, i64_w, i32_w]
       rfl
      refine pure_ (i := 27) (N := some 33) (v := undef) (a' := ?_) Qx2_24 rfl rfl (any_of HT_.out (by kernel_rfl)) (fun _ _ _ h => h) (Or.inr ⟨by rfl, rfl⟩) ?_ ?_
      rotate_left
      ·simp only [Act.put, List.setIfInBounds_toArray, List.set_cons_zero, List.set_cons_succ, i64_w, i32_w]
       rfl
      refine pure_ (i := 28) (N := some 34) (v := undef) (a' := ?_) Qx2_25 rfl rfl (any_of HT_.out (by kernel_rfl)) (fun _ _ _ h => h) (Or.inr ⟨by rfl, rfl⟩) ?_ ?_
      rotate_left
      ·simp only [Act.put, List.setIfInBounds_toArray, List.set_cons_zero, List.set_cons_succ, i64_w, i32_w]
       rfl
      refine pure_ (i := 29) (N := some 35) (v := undef) (a' := ?_) Qx2_26 rfl rfl (any_of HT_.out (by kernel_rfl)) (fun _ _ _ h => h) (Or.inr ⟨by rfl, rfl⟩) ?_ ?_
      rotate_left
      ·simp only [Act.put, List.setIfInBounds_toArray, List.set_cons_zero, List.set_cons_succ, i64_w, i32_w]
       rfl
      refine pure_ (i := 30) (N := some 36) (v := undef) (a' := ?_) Qx2_27 rfl rfl (any_of HT_.out (by kernel_rfl)) (fun _ _ _ h => h) (Or.inr ⟨by rfl, rfl⟩) ?_ ?_
      rotate_left
      ·simp only [Act.put, List.setIfInBounds_toArray, List.set_cons_zero, List.set_cons_succ, i64_w, i32_w]
       rfl
      refine pure_ (i := 31) (N := some 37) (v := undef) (a' := ?_) Qx2_28 rfl rfl (any_of HT_.out (by kernel_rfl)) (fun _ _ _ h => h) (Or.inr ⟨by rfl, rfl⟩) ?_ ?_
      rotate_left
      ·simp only [Act.put, List.setIfInBounds_toArray, List.set_cons_zero, List.set_cons_succ, i64_w, i32_w]
       rfl
      refine pure_ (i := 32) (N := some 38) (v := ?_) (a' := ?_) Qx2_29 rfl rfl (any_of HT_.out (by kernel_rfl)) (fun _ _ _ h => h) (Or.inl ⟨by rfl, ?_⟩) ?_ ?_
      rotate_left
      ·intro w'
       go_simp
       with_reducible rfl
      rotate_left
      ·simp only [Act.put, List.setIfInBounds_toArray, List.set_cons_zero, List.set_cons_succ, i64_w, i32_w]
       rfl
      refine pure_ (i := 33) (N := some 39) (v := ?_) (a' := ?_) Qx2_30 rfl rfl (any_of HT_.out (by kernel_rfl)) (fun _ _ _ h => h) (Or.inl ⟨by rfl, ?_⟩) ?_ ?_
      rotate_left
      ·intro w'
       go_simp
       with_reducible rfl
      rotate_left
      ·simp only [Act.put, List.setIfInBounds_toArray, List.set_cons_zero, List.set_cons_succ, i64_w, i32_w]
       rfl
      refine pure_ (i := 34) (N := some 40) (v := undef) (a' := ?_) Qx2_31 rfl rfl (any_of HT_.out (by kernel_rfl)) (fun _ _ _ h => h) (Or.inr ⟨by rfl, rfl⟩) ?_ ?_
      rotate_left
      ·simp only [Act.put, List.setIfInBounds_toArray, List.set_cons_zero, List.set_cons_succ, i64_w, i32_w]
       rfl
      refine pure_ (i := 35) (N := some 41) (v := undef) (a' := ?_) Qx2_32 rfl rfl (any_of HT_.out (by kernel_rfl)) (fun _ _ _ h => h) (Or.inr ⟨by rfl, rfl⟩) ?_ ?_
      rotate_left
      ·simp only [Act.put, List.setIfInBounds_toArray, List.set_cons_zero, List.set_cons_succ, i64_w, i32_w]
       rfl
      refine pure_ (i := 36) (N := some 42) (v := undef) (a' := ?_) Qx2_33 rfl rfl (any_of HT_.out (by kernel_rfl)) (fun _ _ _ h => h) (Or.inr ⟨by rfl, rfl⟩) ?_ ?_
      rotate_left
      ·simp only [Act.put, List.setIfInBounds_toArray, List.set_cons_zero, List.set_cons_succ, i64_w, i32_w]
       rfl
      refine pure_ (i := 37) (N := some 43) (v := undef) (a' := ?_) Qx2_34 rfl rfl (any_of HT_.out (by kernel_rfl)) (fun _ _ _ h => h) (Or.inr ⟨by rfl, rfl⟩) ?_ ?_
      rotate_left
      ·simp only [Act.put, List.setIfInBounds_toArray, List.set_cons_zero, List.set_cons_succ, i64_w, i32_w]
       rfl
      refine pure_ (i := 38) (N := some 44) (v := undef) (a' := ?_) Qx2_35 rfl rfl (any_of HT_.out (by kernel_rfl)) (fun _ _ _ h => h) (Or.inr ⟨by rfl, rfl⟩) ?_ ?_
      rotate_left
      ·simp only [Act.put, List.setIfInBounds_toArray, List.set_cons_zero, List.set_cons_succ, i64_w, i32_w]
       rfl
      refine pure_ (i := 39) (N := some 45) (v := ?_) (a' := ?_) Qx2_36 rfl rfl (any_of HT_.out (by kernel_rfl)) (fun _ _ _ h => h) (Or.inl ⟨by rfl, ?_⟩) ?_ ?_
      rotate_left
      ·intro w'
       go_simp
       with_reducible rfl
      rotate_left
      ·simp only [Act.put, List.setIfInBounds_toArray, List.set_cons_zero, List.set_cons_succ, i64_w, i32_w]
       rfl
      refine pure_ (i := 40) (N := some 46) (v := ?_) (a' := ?_) Qx2_37 rfl rfl (any_of HT_.out (by kernel_rfl)) (fun _ _ _ h => h) (Or.inl ⟨by rfl, ?_⟩) ?_ ?_
      rotate_left
      ·intro w'
       go_simp
       with_reducible rfl
      rotate_left
      ·simp only [Act.put, List.setIfInBounds_toArray, List.set_cons_zero, List.set_cons_succ, i64_w, i32_w]
       rfl
      refine pure_ (i := 41) (N := some 47) (v := undef) (a' := ?_) Qx2_38 rfl rfl (any_of HT_.out (by kernel_rfl)) (fun _ _ _ h => h) (Or.inr ⟨by rfl, rfl⟩) ?_ ?_
      rotate_left
      ·simp only [Act.put, List.setIfInBounds_toArray, List.set_cons_zero, List.set_cons_succ, i64_w, i32_w]
       rfl
      refine pure_ (i := 42) (N := some 48) (v := undef) (a' := ?_) Qx2_39 rfl rfl (any_of HT_.out (by kernel_rfl)) (fun _ _ _ h => h) (Or.inr ⟨by rfl, rfl⟩) ?_ ?_
      rotate_left
      ·simp only [Act.put, List.setIfInBounds_toArray, List.set_cons_zero, List.set_cons_succ, i64_w, i32_w]
       rfl
      refine pure_ (i := 43) (N := some 49) (v := undef) (a' := ?_) Qx2_40 rfl rfl (any_of HT_.out (by kernel_rfl)) (fun _ _ _ h => h) (Or.inr ⟨by rfl, rfl⟩) ?_ ?_
      rotate_left
      ·simp only [Act.put, List.setIfInBounds_toArray, List.set_cons_zero, List.set_cons_succ, i64_w, i32_w]
       rfl
      refine pure_ (i := 44) (N := some 50) (v := undef) (a' := ?_) Qx2_41 rfl rfl (any_of HT_.out (by kernel_rfl)) (fun _ _ _ h => h) (Or.inr ⟨by rfl, rfl⟩) ?_ ?_
      rotate_left
      ·simp only [Act.put, List.setIfInBounds_toArray, List.set_cons_zero, List.set_cons_succ, i64_w, i32_w]
       rfl
      refine pure_ (i := 45) (N := some 51) (v := undef) (a' := ?_) Qx2_42 rfl rfl (any_of HT_.out (by kernel_rfl)) (fun _ _ _ h => h) (Or.inr ⟨by rfl, rfl⟩) ?_ ?_
      rotate_left
      ·simp only [Act.put, List.setIfInBounds_toArray, List.set_cons_zero, List.set_cons_succ, i64_w, i32_w]
       rfl
      refine pure_ (i := 46) (N := some 52) (v := ?_) (a' := ?_) Qx2_43 rfl rfl (any_of HT_.out (by kernel_rfl)) (fun _ _ _ h => h) (Or.inl ⟨by rfl, ?_⟩) ?_ ?_
      rotate_left
      ·intro w'
       go_simp
       with_reducible rfl
      rotate_left
      ·simp only [Act.put, List.setIfInBounds_toArray, List.set_cons_zero, List.set_cons_succ, i64_w, i32_w]
       rfl
      refine done_ (done_of HT_.out (by kernel_rfl)) ?_
      try go_wp2
      go_meet
      case rel => exact ⟨_, (true), (by first | rfl | (simp; done) | (simp [*]; done)), H', ⟨by first | omega | exact Nat.le_refl _⟩, ⟨by (with_reducible repeat (first | refine blk_drewN ?_ _ | refine blk_drew ?_ | refine blk_alloc ?_ _)); exact BK114.out⟩, ⟨by (with_reducible repeat (first | refine blk_drewN ?_ _ | refine blk_drew ?_ | refine blk_alloc ?_ _)); exact BK115.out⟩, ⟨by repeat (first | (with_reducible first | exact HB.out | apply below_alloc | apply pw_below_drewN | apply below_drew1 | refine below_set ?_ GE114.out | refine below_set ?_ GE115.out) | exact HB.out)⟩⟩
    ·rw [if_neg c8] at H
     have c8b0 : (a1_2.toList == a0_2.toList) = false := beq_eq_false_iff_ne.mpr c8
     have c8b1 : (a1_2.toList != a0_2.toList) = true := bne_iff_ne.mpr c8
     have H' := Aside0.mk H
     clear H
     try go_wp2
     have n0_ := Aside0.mk (blk_drew BK114.out)
     have n1_ := Aside0.mk (blk_drew BK115.out)
     have n2_ := Aside0.mk (below_drew1 HB.out)
     clear BK114
     clear BK115
     clear HB
     have BK114 := n0_
     have BK115 := n1_
     have HB := n2_
     clear n0_ n1_ n2_
     refine start_ (n := 47) (S := fun w' => w'.cell? ⟨gb115, 0, none⟩ = some (.bool true) ∧ w'.cell? ⟨gb115, 1, none⟩ = some (.slice A1_1 l1_1.length c1_1) ∧ w'.cell? ⟨gb115, 2, none⟩ = some (.string a1_2) ∧ w'.cell? ⟨gb115, 3, none⟩ = some (.string a1_3) ∧ w'.cell? ⟨gb115, 4, none⟩ = some (.string a1_4) ∧ w'.cell? ⟨gb115, 5, none⟩ = some (.int .u64 a1_5) ∧ w'.cell? ⟨gb115, 6, none⟩ = some (.int .u64 a1_6) ∧ w'.cell? ⟨gb115, 7, none⟩ = some (.int .u64 a1_7) ∧ w'.cell? ⟨gb114, 0, none⟩ = some (.slice A0_0 l0_0.length c0_0) ∧ w'.cell? ⟨gb114, 1, none⟩ = some (.bool a0_1) ∧ w'.cell? ⟨gb114, 2, none⟩ = some (.string a0_2) ∧ w'.cell? ⟨gb114, 3, none⟩ = some (.string a0_3)) (ds := []) Qx2_0 (by kernel_rfl) rfl rfl ⟨(blk_cell BK115.out 0).trans rfl, (blk_cell BK115.out 1).trans rfl, (blk_cell BK115.out 2).trans rfl, (blk_cell BK115.out 3).trans rfl, (blk_cell BK115.out 4).trans rfl, (blk_cell BK115.out 5).trans rfl, (blk_cell BK115.out 6).trans rfl, (blk_cell BK115.out 7).trans rfl, (blk_cell BK114.out 0).trans rfl, (blk_cell BK114.out 1).trans rfl, (blk_cell BK114.out 2).trans rfl, (blk_cell BK114.out 3).trans rfl⟩ (fun hHeld => ?_); refine with_tabW spec_SameVer.tab1 spec_SameVer.bits1 (fun HT_ HW_ => ?_)
     generalize w5.drew = w25 at BK114 BK115 HB hHeld ⊢
     refine pure_ (i := 0) (N := some 6) (v := ?_) (a' := ?_) Qx2_1 rfl rfl (any_of HT_.out (by kernel_rfl)) (fun _ _ _ h => h) (Or.inl ⟨by rfl, ?_⟩) ?_ ?_
     rotate_left
     ·intro w'
      go_simp
      with_reducible rfl
     rotate_left
     ·simp only [Act.put, List.setIfInBounds_toArray, List.set_cons_zero, List.set_cons_succ, i64_w, i32_w]
      rfl
     refine take_ (i := 1) (N := some 7) (v := ?_) (a' := ?_) Qx2_2 rfl rfl (take_ofW HT_.out HW_.out (by kernel_rfl)) (fun _ _ _ h => h) (Or.inl ⟨by rfl, ?_⟩) hHeld ?_ ?_
     rotate_left
     ·rintro w' ⟨s0, s1, s2, s3, s4, s5, s6, s7, s8, s9, s10, s11⟩
      go_simp
      with_reducible rfl
     rotate_left
     ·simp only [Act.put, List.setIfInBounds_toArray, List.set_cons_zero, List.set_cons_succ, i64_w, i32_w]
      rfl
     refine pure_ (i := 2) (N := some 8) (v := ?_) (a' := ?_) Qx2_3 rfl rfl (any_of HT_.out (by kernel_rfl)) (fun _ _ _ h => h) (Or.inl ⟨by rfl, ?_⟩) ?_ ?_
     rotate_left
     ·intro w'
      go_simp
      with_reducible rfl
     rotate_left
     ·simp only [Act.put, List.setIfInBounds_toArray, List.set_cons_zero, List.set_cons_succ, i64_w, i32_w]
      rfl
     refine pure_ (i := 3) (N := some 9) (v := ?_) (a' := ?_) Qx2_4 rfl rfl (any_of HT_.out (by kernel_rfl)) (fun _ _ _ h => h) (Or.inl ⟨by rfl, ?_⟩) ?_ ?_
     rotate_left
     ·intro w'
      go_simp
      with_reducible rfl
     rotate_left
     ·simp only [Act.put, List.setIfInBounds_toArray, List.set_cons_zero, List.set_cons_succ, i64_w, i32_w]
      rfl
     refine pure_ (i := 4) (N := some 10) (v := ?_) (a' := ?_) Qx2_5 rfl rfl (any_of HT_.out (by kernel_rfl)) (fun _ _ _ h => h) (Or.inl ⟨by rfl, ?_⟩) ?_ ?_
     rotate_left
     ·intro w'
      go_simp
      with_reducible rfl
     rotate_left
     ·simp only [Act.put, List.setIfInBounds_toArray, List.set_cons_zero, List.set_cons_succ, i64_w, i32_w]
      rfl
     refine pure_ (i := 7) (N := some 13) (v := ?_) (a' := ?_) Qx2_44 rfl rfl (any_of HT_.out (by kernel_rfl)) (fun _ _ _ h => h) (Or.inl ⟨by rfl, ?_⟩) ?_ ?_
     rotate_left
     ·intro w'
      go_simp
      with_reducible rfl
     rotate_left
     ·simp only [Act.put, List.setIfInBounds_toArray, List.set_cons_zero, List.set_cons_succ, i64_w, i32_w]
      rfl
     refine take_ (i := 5) (N := some 11) (v := ?_) (a' := ?_) Qx2_45 rfl rfl (take_ofW HT_.out HW_.out (by kernel_rfl)) (fun _ _ _ h => h) (Or.inl ⟨by rfl, ?_⟩) hHeld ?_ ?_
     rotate_left
     ·rintro w' ⟨s0, s1, s2, s3, s4, s5, s6, s7, s8, s9, s10, s11⟩
      go_simp
      with_reducible rfl
     rotate_left
     ·simp only [Act.put, List.setIfInBounds_toArray, List.set_cons_zero, List.set_cons_succ, i64_w, i32_w]
      rfl
     refine pure_ (i := 6) (N := some 12) (v := ?_) (a' := ?_) Qx2_6 rfl rfl (any_of HT_.out (by kernel_rfl)) (fun _ _ _ h => h) (Or.inl ⟨by rfl, ?_⟩) ?_ ?_
     rotate_left
     ·intro w'
      go_simp
      with_reducible rfl
     rotate_left
     ·simp only [Act.put, List.setIfInBounds_toArray, List.set_cons_zero, List.set_cons_succ, i64_w, i32_w]
      rfl
     refine take_ (i := 8) (N := some 14) (v := ?_) (a' := ?_) Qx2_7 rfl rfl (take_ofW HT_.out HW_.out (by kernel_rfl)) (fun _ _ _ h => h) (Or.inl ⟨by rfl, ?_⟩) hHeld ?_ ?_
     rotate_left
     ·rintro w' ⟨s0, s1, s2, s3, s4, s5, s6, s7, s8, s9, s10, s11⟩
      go_simp
      with_reducible rfl
     rotate_left
     ·simp only [Act.put, List.setIfInBounds_toArray, List.set_cons_zero, List.set_cons_succ, i64_w, i32_w]
      rfl
     refine pure_ (i := 9) (N := some 15) (v := ?_) (a' := ?_) Qx2_8 rfl rfl (any_of HT_.out (by kernel_rfl)) (fun _ _ _ h => h) (Or.inl ⟨by rfl, ?_⟩) ?_ ?_
     rotate_left
     ·intro w'
      go_simp
      with_reducible rfl
     rotate_left
     ·simp only [Act.put, List.setIfInBounds_toArray, List.set_cons_zero, List.set_cons_succ, i64_w, i32_w]
      rfl
     refine pure_ (i := 10) (N := some 16) (v := ?_) (a' := ?_) Qx2_9 rfl rfl (any_of HT_.out (by kernel_rfl)) (fun _ _ _ h => h) (Or.inl ⟨by rfl, ?_⟩) ?_ ?_
     rotate_left
     ·intro w'
      go_simp
      with_reducible rfl
     rotate_left
     ·simp only [Act.put, List.setIfInBounds_toArray, List.set_cons_zero, List.set_cons_succ, i64_w, i32_w]
      rfl
     refine pure_ (i := 11) (N := some 17) (v := ?_) (a' := ?_) Qx2_10 rfl rfl (any_of HT_.out (by kernel_rfl)) (fun _ _ _ h => h) (Or.inl ⟨by rfl, ?_⟩) ?_ ?_
     rotate_left
     ·intro w'
      go_simp
      with_reducible rfl
     rotate_left
     ·simp only [Act.put, List.setIfInBounds_toArray, List.set_cons_zero, List.set_cons_succ, i64_w, i32_w]
      rfl
     refine pure_ (i := 12) (N := some 18) (v := ?_) (a' := ?_) Qx2_11 rfl rfl (any_of HT_.out (by kernel_rfl)) (fun _ _ _ h => h) (Or.inl ⟨by rfl, ?_⟩) ?_ ?_
     rotate_left
     ·intro w'
      go_simp
      with_reducible rfl
     rotate_left
     ·simp only [Act.put, List.setIfInBounds_toArray, List.set_cons_zero, List.set_cons_succ, i64_w, i32_w]
      rfl
     refine pure_ (i := 13) (N := some 19) (v := ?_) (a' := ?_) Qx2_12 rfl rfl (any_of HT_.out (by kernel_rfl)) (fun _ _ _ h => h) (Or.inl ⟨by rfl, ?_⟩) ?_ ?_
     rotate_left
     ·intro w'
      go_simp
      with_reducible rfl
     rotate_left
     ·simp only [Act.put, List.setIfInBounds_toArray, List.set_cons_zero, List.set_cons_succ, i64_w, i32_w]
      rfl
     refine pure_ (i := 15) (N := some 21) (v := ?_) (a' := ?_) Qx2_46 rfl rfl (any_of HT_.out (by kernel_rfl)) (fun _ _ _ h => h) (Or.inl ⟨by rfl, ?_⟩) ?_ ?_
     rotate_left
     ·intro w'
      go_simp
      with_reducible rfl
     rotate_left
     ·simp only [Act.put, List.setIfInBounds_toArray, List.set_cons_zero, List.set_cons_succ, i64_w, i32_w]
      rfl
     refine take_ (i := 14) (N := some 20) (v := ?_) (a' := ?_) Qx2_13 rfl rfl (take_ofW HT_.out HW_.out (by kernel_rfl)) (fun _ _ _ h => h) (Or.inl ⟨by rfl, ?_⟩) hHeld ?_ ?_
     rotate_left
     ·rintro w' ⟨s0, s1, s2, s3, s4, s5, s6, s7, s8, s9, s10, s11⟩
      go_simp
      with_reducible rfl
     rotate_left
     ·simp only [Act.put, List.setIfInBounds_toArray, List.set_cons_zero, List.set_cons_succ, i64_w, i32_w]
      rfl
     refine take_ (i := 16) (N := some 22) (v := ?_) (a' := ?_) Qx2_14 rfl rfl (take_ofW HT_.out HW_.out (by kernel_rfl)) (fun _ _ _ h => h) (Or.inl ⟨by rfl, ?_⟩) hHeld ?_ ?_
     rotate_left
     ·rintro w' ⟨s0, s1, s2, s3, s4, s5, s6, s7, s8, s9, s10, s11⟩
      go_simp
      with_reducible rfl
     rotate_left
     ·simp only [Act.put, List.setIfInBounds_toArray, List.set_cons_zero, List.set_cons_succ, i64_w, i32_w]
      rfl
     refine pure_ (i := 17) (N := some 23) (v := ?_) (a' := ?_) Qx2_15 rfl rfl (any_of HT_.out (by kernel_rfl)) (fun _ _ _ h => h) (Or.inl ⟨by rfl, ?_⟩) ?_ ?_
     rotate_left
     ·intro w'
      go_simp
      with_reducible rfl
     rotate_left
     ·simp only [Act.put, List.setIfInBounds_toArray, List.set_cons_zero, List.set_cons_succ, i64_w, i32_w]
      rfl
     refine pure_ (i := 18) (N := some 24) (v := ?_) (a' := ?_) Qx2_16 rfl rfl (any_of HT_.out (by kernel_rfl)) (fun _ _ _ h => h) (Or.inl ⟨by rfl, ?_⟩) ?_ ?_
     rotate_left
     ·intro w'
      go_simp
      with_reducible rfl
     rotate_left
     ·simp only [Act.put, List.setIfInBounds_toArray, List.set_cons_zero, List.set_cons_succ, i64_w, i32_w]
      rfl
     refine pure_ (i := 19) (N := some 25) (v := ?_) (a' := ?_) Qx2_17 rfl rfl (any_of HT_.out (by kernel_rfl)) (fun _ _ _ h => h) (Or.inl ⟨by rfl, ?_⟩) ?_ ?_
     rotate_left
     ·intro w'
      go_simp
      with_reducible rfl
     rotate_left
     ·simp only [Act.put, List.setIfInBounds_toArray, List.set_cons_zero, List.set_cons_succ, i64_w, i32_w]
      rfl
     refine pure_ (i := 20) (N := some 26) (v := undef) (a' := ?_) Qx2_18 rfl rfl (any_of HT_.out (by kernel_rfl)) (fun _ _ _ h => h) (Or.inr ⟨by rfl, rfl⟩) ?_ ?_
     rotate_left
     ·simp only [Act.put, List.setIfInBounds_toArray, List.set_cons_zero, List.set_cons_succ, i64_w, i32_w]
      rfl
     refine pure_ (i := 21) (N := some 27) (v := undef) (a' := ?_) Qx2_48 rfl rfl (any_of HT_.out (by kernel_rfl)) (fun _ _ _ h => h) (Or.inr ⟨by rfl, rfl⟩) ?_ ?_
     rotate_left
     ·simp only [Act.put, List.setIfInBounds_toArray, List.set_cons_zero, List.set_cons_succ, i64_w, i32_w]
      rfl
     refine pure_ (i := 22) (N := some 28) (v := undef) (a' := ?_) Qx2_19 rfl rfl (any_of HT_.out (by kernel_rfl)) (fun _ _ _ h => h) (Or.inr ⟨by rfl, rfl⟩) ?_ ?_
     rotate_left
     ·simp only [Act.put, List.setIfInBounds_toArray, List.set_cons_zero, List.set_cons_succ, i64_w, i32_w]
      rfl
     refine pure_ (i := 23) (N := some 29) (v := undef) (a' := ?_) Qx2_20 rfl rfl (any_of HT_.out (by kernel_rfl)) (fun _ _ _ h => h) (Or.inr ⟨by rfl, rfl⟩) ?_ ?_
     rotate_left
     ·simp only [Act.put, List.setIfInBounds_toArray, List.set_cons_zero, List.set_cons_succ, i64_w, i32_w]
      rfl
     refine pure_ (i := 24) (N := some 30) (v := undef) (a' := ?_) Qx2_21 rfl rfl (any_of HT_.out (by kernel_rfl)) (fun _ _ _ h => h) (Or.inr ⟨by rfl, rfl⟩) ?_ ?_
     rotate_left
     ·simp only [Act.put, List.setIfInBounds_toArray, List.set_cons_zero, List.set_cons_succ, i64_w, i32_w]
      rfl
     refine pure_ (i := 25) (N := some 31) (v := ?_) (a' := ?_) Qx2_22 rfl rfl (any_of HT_.out (by kernel_rfl)) (fun _ _ _ h => h) (Or.inl ⟨by rfl, ?_⟩) ?_ ?_
     rotate_left
     ·intro w'
      go_simp
      with_reducible rfl
     rotate_left
     ·simp only [Act.put, List.setIfInBounds_toArray, List.set_cons_zero, List.set_cons_succ, i64_w, i32_w]
      rfl
     refine pure_ (i := 26) (N := some 32) (v := ?_) (a' := ?_) Qx2_23 rfl rfl (any_of HT_.out (by kernel_rfl)) (fun _ _ _ h => h) (Or.inl ⟨by rfl, ?_⟩) ?_ ?_
     rotate_left
     ·intro w'
      go_simp
      with_reducible rfl
     rotate_left
     ·simp only [Act.put, List.setIfInBounds_toArray, List.set_cons_zero, List.set_cons_succ, i64_w, i32_w]
      rfl
     refine pure_ (i := 27) (N := some 33) (v := undef) (a' := ?_) Qx2_24 rfl rfl (any_of HT_.out (by kernel_rfl)) (fun _ _ _ h => h) (Or.inr ⟨by rfl, rfl⟩) ?_ ?_
     rotate_left
     ·simp only [Act.put, List.setIfInBounds_toArray, List.set_cons_zero, List.set_cons_succ, i64_w, i32_w]
      rfl
     refine pure_ (i := 28) (N := some 34) (v := undef) (a' := ?_) Qx2_25 rfl rfl (any_of HT_.out (by kernel_rfl)) (fun _ _ _ h => h) (Or.inr ⟨by rfl, rfl⟩) ?_ ?_
     rotate_left
     ·simp only [Act.put, List.setIfInBounds_toArray, List.set_cons_zero, List.set_cons_succ, i64_w, i32_w]
      rfl
     refine pure_ (i := 29) (N := some 35) (v := undef) (a' := ?_) Qx2_26 rfl rfl (any_of HT_.out (by kernel_rfl)) (fun _ _ _ h => h) (Or.inr ⟨by rfl, rfl⟩) ?_ ?_
     rotate_left
     ·simp only [Act.put, List.setIfInBounds_toArray, List.set_cons_zero, List.set_cons_succ, i64_w, i32_w]
      rfl
     refine pure_ (i := 30) (N := some 36) (v := undef) (a' := ?_) Qx2_27 rfl rfl (any_of HT_.out (by kernel_rfl)) (fun _ _ _ h => h) (Or.inr ⟨by rfl, rfl⟩) ?_ ?_
     rotate_left
     ·simp only [Act.put, List.setIfInBounds_toArray, List.set_cons_zero, List.set_cons_succ, i64_w, i32_w]
      rfl
     refine pure_ (i := 31) (N := some 37) (v := undef) (a' := ?_) Qx2_28 rfl rfl (any_of HT_.out (by kernel_rfl)) (fun _ _ _ h => h) (Or.inr ⟨by rfl, rfl⟩) ?_ ?_
     rotate_left
     ·simp only [Act.put, List.setIfInBounds_toArray, List.set_cons_zero, List.set_cons_succ, i64_w, i32_w]
      rfl
     refine pure_ (i := 32) (N := some 38) (v := ?_) (a' := ?_) Qx2_29 rfl rfl (any_of HT_.out (by kernel_rfl)) (fun _ _ _ h => h) (Or.inl ⟨by rfl, ?_⟩) ?_ ?_
     rotate_left
     ·intro w'
      go_simp
      with_reducible rfl
     rotate_left
     ·simp only [Act.put, List.setIfInBounds_toArray, List.set_cons_zero, List.set_cons_succ, i64_w, i32_w]
      rfl
     refine pure_ (i := 33) (N := some 39) (v := ?_) (a' := ?_) Qx2_30 rfl rfl (any_of HT_.out (by kernel_rfl)) (fun _ _ _ h => h) (Or.inl ⟨by rfl, ?_⟩) ?_ ?_
     rotate_left
     ·intro w'
      go_simp
      with_reducible rfl
     rotate_left
     ·simp only [Act.put, List.setIfInBounds_toArray, List.set_cons_zero, List.set_cons_succ, i64_w, i32_w]
      rfl
     refine pure_ (i := 34) (N := some 40) (v := undef) (a' := ?_) Qx2_31 rfl rfl (any_of HT_.out (by kernel_rfl)) (fun _ _ _ h => h) (Or.inr ⟨by rfl, rfl⟩) ?_ ?_
     rotate_left
     ·simp only [Act.put, List.setIfInBounds_toArray, List.set_cons_zero, List.set_cons_succ, i64_w, i32_w]
      rfl
     refine pure_ (i := 35) (N := some 41) (v := undef) (a' := ?_) Qx2_32 rfl rfl (any_of HT_.out (by kernel_rfl)) (fun _ _ _ h => h) (Or.inr ⟨by rfl, rfl⟩) ?_ ?_
     rotate_left
     ·simp only [Act.put, List.setIfInBounds_toArray, List.set_cons_zero, List.set_cons_succ, i64_w, i32_w]
      rfl
     refine pure_ (i := 36) (N := some 42) (v := undef) (a' := ?_) Qx2_33 rfl rfl (any_of HT_.out (by kernel_rfl)) (fun _ _ _ h => h) (Or.inr ⟨by rfl, rfl⟩) ?_ ?_
     rotate_left
     ·simp only [Act.put, List.setIfInBounds_toArray, List.set_cons_zero, List.set_cons_succ, i64_w, i32_w]
      rfl
     refine pure_ (i := 37) (N := some 43) (v := undef) (a' := ?_) Qx2_34 rfl rfl (any_of HT_.out (by kernel_rfl)) (fun _ _ _ h => h) (Or.inr ⟨by rfl, rfl⟩) ?_ ?_
     rotate_left
     ·simp only [Act.put, List.setIfInBounds_toArray, List.set_cons_zero, List.set_cons_succ, i64_w, i32_w]
      rfl
     refine pure_ (i := 38) (N := some 44) (v := undef) (a' := ?_) Qx2_35 rfl rfl (any_of HT_.out (by kernel_rfl)) (fun _ _ _ h => h) (Or.inr ⟨by rfl, rfl⟩) ?_ ?_
     rotate_left
     ·simp only [Act.put, List.setIfInBounds_toArray, List.set_cons_zero, List.set_cons_succ, i64_w, i32_w]
      rfl
     refine pure_ (i := 39) (N := some 45) (v := ?_) (a' := ?_) Qx2_36 rfl rfl (any_of HT_.out (by kernel_rfl)) (fun _ _ _ h => h) (Or.inl ⟨by rfl, ?_⟩) ?_ ?_
     rotate_left
     ·intro w'
      go_simp
      with_reducible rfl
     rotate_left
     ·simp only [Act.put, List.setIfInBounds_toArray, List.set_cons_zero, List.set_cons_succ, i64_w, i32_w]
      rfl
     refine pure_ (i := 40) (N := some 46) (v := ?_) (a' := ?_) Qx2_37 rfl rfl (any_of HT_.out (by kernel_rfl)) (fun _ _ _ h => h) (Or.inl ⟨by rfl, ?_⟩) ?_ ?_
     rotate_left
     ·intro w'
      go_simp
      with_reducible rfl
     rotate_left
     ·simp only [Act.put, List.setIfInBounds_toArray, List.set_cons_zero, List.set_cons_succ, i64_w, i32_w]
      rfl
     refine pure_ (i := 41) (N := some 47) (v := undef) (a' := ?_) Qx2_38 rfl rfl (any_of HT_.out (by kernel_rfl)) (fun _ _ _ h => h) (Or.inr ⟨by rfl, rfl⟩) ?_ ?_
     rotate_left
     ·simp only [Act.put, List.setIfInBounds_toArray, List.set_cons_zero, List.set_cons_succ, i64_w, i32_w]
      rfl
     refine pure_ (i := 42) (N := some 48) (v := undef) (a' := ?_) Qx2_39 rfl rfl (any_of HT_.out (by kernel_rfl)) (fun _ _ _ h => h) (Or.inr ⟨by rfl, rfl⟩) ?_ ?_
     rotate_left
     ·simp only [Act.put, List.setIfInBounds_toArray, List.set_cons_zero, List.set_cons_succ, i64_w, i32_w]
      rfl
     refine pure_ (i := 43) (N := some 49) (v := undef) (a' := ?_) Qx2_40 rfl rfl (any_of HT_.out (by kernel_rfl)) (fun _ _ _ h => h) (Or.inr ⟨by rfl, rfl⟩) ?_ ?_
     rotate_left
     ·simp only [Act.put, List.setIfInBounds_toArray, List.set_cons_zero, List.set_cons_succ, i64_w, i32_w]
      rfl
     refine pure_ (i := 44) (N := some 50) (v := undef) (a' := ?_) Qx2_41 rfl rfl (any_of HT_.out (by kernel_rfl)) (fun _ _ _ h => h) (Or.inr ⟨by rfl, rfl⟩) ?_ ?_
     rotate_left
     ·simp only [Act.put, List.setIfInBounds_toArray, List.set_cons_zero, List.set_cons_succ, i64_w, i32_w]
      rfl
     refine pure_ (i := 45) (N := some 51) (v := undef) (a' := ?_) Qx2_42 rfl rfl (any_of HT_.out (by kernel_rfl)) (fun _ _ _ h => h) (Or.inr ⟨by rfl, rfl⟩) ?_ ?_
     rotate_left
     ·simp only [Act.put, List.setIfInBounds_toArray, List.set_cons_zero, List.set_cons_succ, i64_w, i32_w]
      rfl
     refine pure_ (i := 46) (N := some 52) (v := ?_) (a' := ?_) Qx2_43 rfl rfl (any_of HT_.out (by kernel_rfl)) (fun _ _ _ h => h) (Or.inl ⟨by rfl, ?_⟩) ?_ ?_
     rotate_left
     ·intro w'
      go_simp
      with_reducible rfl
     rotate_left
     ·simp only [Act.put, List.setIfInBounds_toArray, List.set_cons_zero, List.set_cons_succ, i64_w, i32_w]
      rfl
     refine done_ (done_of HT_.out (by kernel_rfl)) ?_
     try go_wp2
     go_meet
     case rel => exact ⟨_, (true), (by first | rfl | (simp; done) | (simp [*]; done)), H', ⟨by first | omega | exact Nat.le_refl _⟩, ⟨by (with_reducible repeat (first | refine blk_drewN ?_ _ | refine blk_drew ?_ | refine blk_alloc ?_ _)); exact BK114.out⟩, ⟨by (with_reducible repeat (first | refine blk_drewN ?_ _ | refine blk_drew ?_ | refine blk_alloc ?_ _)); exact BK115.out⟩, ⟨by repeat (first | (with_reducible first | exact HB.out | apply below_alloc | apply pw_below_drewN | apply below_drew1 | refine below_set ?_ GE114.out | refine below_set ?_ GE115.out) | exact HB.out)⟩⟩
   ·rw [if_neg c7] at H
    have c7b0 : ((l1_1.length : Int) == (l0_0.length : Int)) = false := beq_eq_false_iff_ne.mpr c7
    have c7b1 : ((l1_1.length : Int) != (l0_0.length : Int)) = true := bne_iff_ne.mpr c7
    have c7b2 : (l1_1.length == l0_0.length) = false := by first | simpa using c7 | (simp at c7 ⊢; omega)
    (first | rw [c7b0] | (simp only [i64_w, i32_w]; rw [c7b0]) | skip)
    have H' := Aside0.mk H
    clear H
    try go_wp2
    have n0_ := Aside0.mk (blk_drew BK114.out)
    have n1_ := Aside0.mk (blk_drew BK115.out)
    have n2_ := Aside0.mk (below_drew1 HB.out)
    clear BK114
    clear BK115
    clear HB
    have BK114 := n0_
    have BK115 := n1_
    have HB := n2_
    clear n0_ n1_ n2_
    refine start_ (n := 47) (S := fun w' => w'.cell? ⟨gb115, 0, none⟩ = some (.bool true) ∧ w'.cell? ⟨gb115, 1, none⟩ = some (.slice A1_1 l1_1.length c1_1) ∧ w'.cell? ⟨gb115, 2, none⟩ = some (.string a1_2) ∧ w'.cell? ⟨gb115, 3, none⟩ = some (.string a1_3) ∧ w'.cell? ⟨gb115, 4, none⟩ = some (.string a1_4) ∧ w'.cell? ⟨gb115, 5, none⟩ = some (.int .u64 a1_5) ∧ w'.cell? ⟨gb115, 6, none⟩ = some (.int .u64 a1_6) ∧ w'.cell? ⟨gb115, 7, none⟩ = some (.int .u64 a1_7) ∧ w'.cell? ⟨gb114, 0, none⟩ = some (.slice A0_0 l0_0.length c0_0) ∧ w'.cell? ⟨gb114, 1, none⟩ = some (.bool a0_1) ∧ w'.cell? ⟨gb114, 2, none⟩ = some (.string a0_2) ∧ w'.cell? ⟨gb114, 3, none⟩ = some (.string a0_3)) (ds := []) Qx2_0 (by kernel_rfl) rfl rfl ⟨(blk_cell BK115.out 0).trans rfl, (blk_cell BK115.out 1).trans rfl, (blk_cell BK115.out 2).trans rfl, (blk_cell BK115.out 3).trans rfl, (blk_cell BK115.out 4).trans rfl, (blk_cell BK115.out 5).trans rfl, (blk_cell BK115.out 6).trans rfl, (blk_cell BK115.out 7).trans rfl, (blk_cell BK114.out 0).trans rfl, (blk_cell BK114.out 1).trans rfl, (blk_cell BK114.out 2).trans rfl, (blk_cell BK114.out 3).trans rfl⟩ (fun hHeld => ?_); refine with_tabW spec_SameVer.tab1 spec_SameVer.bits1 (fun HT_ HW_ => ?_)
    generalize w5.drew = w26 at BK114 BK115 HB hHeld ⊢
    refine pure_ (i := 0) (N := some 6) (v := ?_) (a' := ?_) Qx2_1 rfl rfl (any_of HT_.out (by kernel_rfl)) (fun _ _ _ h => h) (Or.inl ⟨by rfl, ?_⟩) ?_ ?_
    rotate_left
    ·intro w'
     go_simp
     with_reducible rfl
    rotate_left
    ·simp only [Act.put, List.setIfInBounds_toArray, List.set_cons_zero, List.set_cons_succ, i64_w, i32_w]
     rfl
    refine take_ (i := 1) (N := some 7) (v := ?_) (a' := ?_) Qx2_2 rfl rfl (take_ofW HT_.out HW_.out (by kernel_rfl)) (fun _ _ _ h => h) (Or.inl ⟨by rfl, ?_⟩) hHeld ?_ ?_
    rotate_left
    ·rintro w' ⟨s0, s1, s2, s3, s4, s5, s6, s7, s8, s9, s10, s11⟩
     go_simp
     with_reducible rfl
    rotate_left
    ·simp only [Act.put, List.setIfInBounds_toArray, List.set_cons_zero, List.set_cons_succ, i64_w, i32_w]
     rfl
    refine pure_ (i := 2) (N := some 8) (v := ?_) (a' := ?_) Qx2_3 rfl rfl (any_of HT_.out (by kernel_rfl)) (fun _ _ _ h => h) (Or.inl ⟨by rfl, ?_⟩) ?_ ?_
    rotate_left
    ·intro w'
     go_simp
     with_reducible rfl
    rotate_left
    ·simp only [Act.put, List.setIfInBounds_toArray, List.set_cons_zero, List.set_cons_succ, i64_w, i32_w]
     rfl
    refine pure_ (i := 3) (N := some 9) (v := ?_) (a' := ?_) Qx2_4 rfl rfl (any_of HT_.out (by kernel_rfl)) (fun _ _ _ h => h) (Or.inl ⟨by rfl, ?_⟩) ?_ ?_
    rotate_left
    ·intro w'
     go_simp
     with_reducible rfl
    rotate_left
    ·simp only [Act.put, List.setIfInBounds_toArray, List.set_cons_zero, List.set_cons_succ, i64_w, i32_w]
     rfl
    refine pure_ (i := 4) (N := some 10) (v := ?_) (a' := ?_) Qx2_5 rfl rfl (any_of HT_.out (by kernel_rfl)) (fun _ _ _ h => h) (Or.inl ⟨by rfl, ?_⟩) ?_ ?_
    rotate_left
    ·intro w'
     go_simp
     with_reducible rfl
    rotate_left
    ·simp only [Act.put, List.setIfInBounds_toArray, List.set_cons_zero, List.set_cons_succ, i64_w, i32_w]
     rfl
    refine pure_ (i := 7) (N := some 13) (v := ?_) (a' := ?_) Qx2_44 rfl rfl (any_of HT_.out (by kernel_rfl)) (fun _ _ _ h => h) (Or.inl ⟨by rfl, ?_⟩) ?_ ?_
    rotate_left
    ·intro w'
     go_simp
     with_reducible rfl
    rotate_left
    ·simp only [Act.put, List.setIfInBounds_toArray, List.set_cons_zero, List.set_cons_succ, i64_w, i32_w]
     rfl
    refine take_ (i := 5) (N := some 11) (v := ?_) (a' := ?_) Qx2_45 rfl rfl (take_ofW HT_.out HW_.out (by kernel_rfl)) (fun _ _ _ h => h) (Or.inl ⟨by rfl, ?_⟩) hHeld ?_ ?_
    rotate_left
    ·rintro w' ⟨s0, s1, s2, s3, s4, s5, s6, s7, s8, s9, s10, s11⟩
     go_simp
     with_reducible rfl
    rotate_left
    ·simp only [Act.put, List.setIfInBounds_toArray, List.set_cons_zero, List.set_cons_succ, i64_w, i32_w]
     rfl
    refine pure_ (i := 6) (N := some 12) (v := ?_) (a' := ?_) Qx2_6 rfl rfl (any_of HT_.out (by kernel_rfl)) (fun _ _ _ h => h) (Or.inl ⟨by rfl, ?_⟩) ?_ ?_
    rotate_left
    ·intro w'
     go_simp
     with_reducible rfl
    rotate_left
    ·simp only [Act.put, List.setIfInBounds_toArray, List.set_cons_zero, List.set_cons_succ, i64_w, i32_w]
     rfl
    refine take_ (i := 8) (N := some 14) (v := ?_) (a' := ?_) Qx2_7 rfl rfl (take_ofW HT_.out HW_.out (by kernel_rfl)) (fun _ _ _ h => h) (Or.inl ⟨by rfl, ?_⟩) hHeld ?_ ?_
    rotate_left
    ·rintro w' ⟨s0, s1, s2, s3, s4, s5, s6, s7, s8, s9, s10, s11⟩
     go_simp
     with_reducible rfl
    rotate_left
    ·simp only [Act.put, List.setIfInBounds_toArray, List.set_cons_zero, List.set_cons_succ, i64_w, i32_w]
     rfl
    refine pure_ (i := 9) (N := some 15) (v := ?_) (a' := ?_) Qx2_8 rfl rfl (any_of HT_.out (by kernel_rfl)) (fun _ _ _ h => h) (Or.inl ⟨by rfl, ?_⟩) ?_ ?_
    rotate_left
    ·intro w'
     go_simp
     with_reducible rfl
    rotate_left
    ·simp only [Act.put, List.setIfInBounds_toArray, List.set_cons_zero, List.set_cons_succ, i64_w, i32_w]
     rfl
    refine pure_ (i := 10) (N := some 16) (v := ?_) (a' := ?_) Qx2_9 rfl rfl (any_of HT_.out (by kernel_rfl)) (fun _ _ _ h => h) (Or.inl ⟨by rfl, ?_⟩) ?_ ?_
    rotate_left
    ·intro w'
     go_simp
     with_reducible rfl
    rotate_left
    ·simp only [Act.put, List.setIfInBounds_toArray, List.set_cons_zero, List.set_cons_succ, i64_w, i32_w]
     rfl
    refine pure_ (i := 11) (N := some 17) (v := ?_) (a' := ?_) Qx2_10 rfl rfl (any_of HT_.out (by kernel_rfl)) (fun _ _ _ h => h) (Or.inl ⟨by rfl, ?_⟩) ?_ ?_
    rotate_left
    ·intro w'
     go_simp
     with_reducible rfl
    rotate_left
    ·simp only [Act.put, List.setIfInBounds_toArray, List.set_cons_zero, List.set_cons_succ, i64_w, i32_w]
     rfl
    refine pure_ (i := 12) (N := some 18) (v := ?_) (a' := ?_) Qx2_11 rfl rfl (any_of HT_.out (by kernel_rfl)) (fun _ _ _ h => h) (Or.inl ⟨by rfl, ?_⟩) ?_ ?_
    rotate_left
    ·intro w'
     go_simp
     with_reducible rfl
    rotate_left
    ·simp only [Act.put, List.setIfInBounds_toArray, List.set_cons_zero, List.set_cons_succ, i64_w, i32_w]
     rfl
    refine pure_ (i := 13) (N := some 19) (v := undef) (a' := ?_) Qx2_12 rfl rfl (any_of HT_.out (by kernel_rfl)) (fun _ _ _ h => h) (Or.inr ⟨by rfl, rfl⟩) ?_ ?_
    rotate_left
    ·simp only [Act.put, List.setIfInBounds_toArray, List.set_cons_zero, List.set_cons_succ, i64_w, i32_w]
     rfl
    refine pure_ (i := 14) (N := some 20) (v := undef) (a' := ?_) Qx2_67 rfl rfl (any_of HT_.out (by kernel_rfl)) (fun _ _ _ h => h) (Or.inr ⟨by rfl, rfl⟩) ?_ ?_
    rotate_left
    ·simp only [Act.put, List.setIfInBounds_toArray, List.set_cons_zero, List.set_cons_succ, i64_w, i32_w]
     rfl
    refine pure_ (i := 15) (N := some 21) (v := undef) (a' := ?_) Qx2_13 rfl rfl (any_of HT_.out (by kernel_rfl)) (fun _ _ _ h => h) (Or.inr ⟨by rfl, rfl⟩) ?_ ?_
    rotate_left
    ·simp only [Act.put, List.setIfInBounds_toArray, List.set_cons_zero, List.set_cons_succ, i64_w, i32_w]
     rfl
    refine pure_ (i := 16) (N := some 22) (v := undef) (a' := ?_) Qx2_14 rfl rfl (any_of HT_.out (by kernel_rfl)) (fun _ _ _ h => h) (Or.inr ⟨by rfl, rfl⟩) ?_ ?_
    rotate_left
    ·simp only [Act.put, List.setIfInBounds_toArray, List.set_cons_zero, List.set_cons_succ, i64_w, i32_w]
     rfl
    refine pure_ (i := 17) (N := some 23) (v := undef) (a' := ?_) Qx2_15 rfl rfl (any_of HT_.out (by kernel_rfl)) (fun _ _ _ h => h) (Or.inr ⟨by rfl, rfl⟩) ?_ ?_
    rotate_left
    ·simp only [Act.put, List.setIfInBounds_toArray, List.set_cons_zero, List.set_cons_succ, i64_w, i32_w]
     rfl
    refine pure_ (i := 18) (N := some 24) (v := ?_) (a' := ?_) Qx2_16 rfl rfl (any_of HT_.out (by kernel_rfl)) (fun _ _ _ h => h) (Or.inl ⟨by rfl, ?_⟩) ?_ ?_
    rotate_left
    ·intro w'
     go_simp
     with_reducible rfl
    rotate_left
    ·simp only [Act.put, List.setIfInBounds_toArray, List.set_cons_zero, List.set_cons_succ, i64_w, i32_w]
     rfl
    refine pure_ (i := 19) (N := some 25) (v := ?_) (a' := ?_) Qx2_17 rfl rfl (any_of HT_.out (by kernel_rfl)) (fun _ _ _ h => h) (Or.inl ⟨by rfl, ?_⟩) ?_ ?_
    rotate_left
    ·intro w'
     go_simp
     with_reducible rfl
    rotate_left
    ·simp only [Act.put, List.setIfInBounds_toArray, List.set_cons_zero, List.set_cons_succ, i64_w, i32_w]
     rfl
    refine pure_ (i := 20) (N := some 26) (v := undef) (a' := ?_) Qx2_18 rfl rfl (any_of HT_.out (by kernel_rfl)) (fun _ _ _ h => h) (Or.inr ⟨by rfl, rfl⟩) ?_ ?_
    rotate_left
    ·simp only [Act.put, List.setIfInBounds_toArray, List.set_cons_zero, List.set_cons_succ, i64_w, i32_w]
     rfl
    refine pure_ (i := 21) (N := some 27) (v := undef) (a' := ?_) Qx2_48 rfl rfl (any_of HT_.out (by kernel_rfl)) (fun _ _ _ h => h) (Or.inr ⟨by rfl, rfl⟩) ?_ ?_
    rotate_left
    ·simp only [Act.put, List.setIfInBounds_toArray, List.set_cons_zero, List.set_cons_succ, i64_w, i32_w]
     rfl
    refine pure_ (i := 22) (N := some 28) (v := undef) (a' := ?_) Qx2_19 rfl rfl (any_of HT_.out (by kernel_rfl)) (fun _ _ _ h => h) (Or.inr ⟨by rfl, rfl⟩) ?_ ?_
    rotate_left
    ·simp only [Act.put, List.setIfInBounds_toArray, List.set_cons_zero, List.set_cons_succ, i64_w, i32_w]
     rfl
    refine pure_ (i := 23) (N := some 29) (v := undef) (a' := ?_) Qx2_20 rfl rfl (any_of HT_.out (by kernel_rfl)) (fun _ _ _ h => h) (Or.inr ⟨by rfl, rfl⟩) ?_ ?_
    rotate_left
    ·simp only [Act.put, List.setIfInBounds_toArray, List.set_cons_zero, List.set_cons_succ, i64_w, i32_w]
     rfl
    refine pure_ (i := 24) (N := some 30) (v := undef) (a' := ?_) Qx2_21 rfl rfl (any_of HT_.out (by kernel_rfl)) (fun _ _ _ h => h) (Or.inr ⟨by rfl, rfl⟩) ?_ ?_
    rotate_left
    ·simp only [Act.put, List.setIfInBounds_toArray, List.set_cons_zero, List.set_cons_succ, i64_w, i32_w]
     rfl
    refine pure_ (i := 25) (N := some 31) (v := ?_) (a' := ?_) Qx2_22 rfl rfl (any_of HT_.out (by kernel_rfl)) (fun _ _ _ h => h) (Or.inl ⟨by rfl, ?_⟩) ?_ ?_
    rotate_left
    ·intro w'
     go_simp
     with_reducible rfl
    rotate_left
    ·simp only [Act.put, List.setIfInBounds_toArray, List.set_cons_zero, List.set_cons_succ, i64_w, i32_w]
     rfl
    refine pure_ (i := 26) (N := some 32) (v := ?_) (a' := ?_) Qx2_23 rfl rfl (any_of HT_.out (by kernel_rfl)) (fun _ _ _ h => h) (Or.inl ⟨by rfl, ?_⟩) ?_ ?_
    rotate_left
    ·intro w'
     go_simp
     with_reducible rfl
    rotate_left
    ·simp only [Act.put, List.setIfInBounds_toArray, List.set_cons_zero, List.set_cons_succ, i64_w, i32_w]
     rfl
    refine pure_ (i := 27) (N := some 33) (v := undef) (a' := ?_) Qx2_24 rfl rfl (any_of HT_.out (by kernel_rfl)) (fun _ _ _ h => h) (Or.inr ⟨by rfl, rfl⟩) ?_ ?_
    rotate_left
    ·simp only [Act.put, List.setIfInBounds_toArray, List.set_cons_zero, List.set_cons_succ, i64_w, i32_w]
     rfl
    refine pure_ (i := 28) (N := some 34) (v := undef) (a' := ?_) Qx2_25 rfl rfl (any_of HT_.out (by kernel_rfl)) (fun _ _ _ h => h) (Or.inr ⟨by rfl, rfl⟩) ?_ ?_
    rotate_left
    ·simp only [Act.put, List.setIfInBounds_toArray, List.set_cons_zero, List.set_cons_succ, i64_w, i32_w]
     rfl
    refine pure_ (i := 29) (N := some 35) (v := undef) (a' := ?_) Qx2_26 rfl rfl (any_of HT_.out (by kernel_rfl)) (fun _ _ _ h => h) (Or.inr ⟨by rfl, rfl⟩) ?_ ?_
    rotate_left
    ·simp only [Act.put, List.setIfInBounds_toArray, List.set_cons_zero, List.set_cons_succ, i64_w, i32_w]
     rfl
    refine pure_ (i := 30) (N := some 36) (v := undef) (a' := ?_) Qx2_27 rfl rfl (any_of HT_.out (by kernel_rfl)) (fun _ _ _ h => h) (Or.inr ⟨by rfl, rfl⟩) ?_ ?_
    rotate_left
    ·simp only [Act.put, List.setIfInBounds_toArray, List.set_cons_zero, List.set_cons_succ, i64_w, i32_w]
     rfl
    refine pure_ (i := 31) (N := some 37) (v := undef) (a' := ?_) Qx2_28 rfl rfl (any_of HT_.out (by kernel_rfl)) (fun _ _ _ h => h) (Or.inr ⟨by rfl, rfl⟩) ?_ ?_
    rotate_left
    ·simp only [Act.put, List.setIfInBounds_toArray, List.set_cons_zero, List.set_cons_succ, i64_w, i32_w]
     rfl
    refine pure_ (i := 32) (N := some 38) (v := ?_) (a' := ?_) Qx2_29 rfl rfl (any_of HT_.out (by kernel_rfl)) (fun _ _ _ h => h) (Or.inl ⟨by rfl, ?_⟩) ?_ ?_
    rotate_left
    ·intro w'
     go_simp
     with_reducible rfl
    rotate_left
    ·simp only [Act.put, List.setIfInBounds_toArray, List.set_cons_zero, List.set_cons_succ, i64_w, i32_w]
     rfl
    refine pure_ (i := 33) (N := some 39) (v := ?_) (a' := ?_) Qx2_30 rfl rfl (any_of HT_.out (by kernel_rfl)) (fun _ _ _ h => h) (Or.inl ⟨by rfl, ?_⟩) ?_ ?_
    rotate_left
    ·intro w'
     go_simp
     with_reducible rfl
    rotate_left
    ·simp only [Act.put, List.setIfInBounds_toArray, List.set_cons_zero, List.set_cons_succ, i64_w, i32_w]
     rfl
    refine pure_ (i := 34) (N := some 40) (v := undef) (a' := ?_) Qx2_31 rfl rfl (any_of HT_.out (by kernel_rfl)) (fun _ _ _ h => h) (Or.inr ⟨by rfl, rfl⟩) ?_ ?_
    rotate_left
    ·simp only [Act.put, List.setIfInBounds_toArray, List.set_cons_zero, List.set_cons_succ, i64_w, i32_w]
     rfl
    refine pure_ (i := 35) (N := some 41) (v := undef) (a' := ?_) Qx2_32 rfl rfl (any_of HT_.out (by kernel_rfl)) (fun _ _ _ h => h) (Or.inr ⟨by rfl, rfl⟩) ?_ ?_
    rotate_left
    ·simp only [Act.put, List.setIfInBounds_toArray, List.set_cons_zero, List.set_cons_succ, i64_w, i32_w]
     rfl
    refine pure_ (i := 36) (N := some 42) (v := undef) (a' := ?_) Qx2_33 rfl rfl (any_of HT_.out (by kernel_rfl)) (fun _ _ _ h => h) (Or.inr ⟨by rfl, rfl⟩) ?_ ?_
    rotate_left
    ·simp only [Act.put, List.setIfInBounds_toArray, List.set_cons_zero, List.set_cons_succ, i64_w, i32_w]
     rfl
    refine pure_ (i := 37) (N := some 43) (v := undef) (a' := ?_) Qx2_34 rfl rfl (any_of HT_.out (by kernel_rfl)) (fun _ _ _ h => h) (Or.inr ⟨by rfl, rfl⟩) ?_ ?_
    rotate_left
    ·simp only [Act.put, List.setIfInBounds_toArray, List.set_cons_zero, List.set_cons_succ, i64_w, i32_w]
     rfl
    refine pure_ (i := 38) (N := some 44) (v := undef) (a' := ?_) Qx2_35 rfl rfl (any_of HT_.out (by kernel_rfl)) (fun _ _ _ h => h) (Or.inr ⟨by rfl, rfl⟩) ?_ ?_
    rotate_left
    ·simp only [Act.put, List.setIfInBounds_toArray, List.set_cons_zero, List.set_cons_succ, i64_w, i32_w]
     rfl
    refine pure_ (i := 39) (N := some 45) (v := ?_) (a' := ?_) Qx2_36 rfl rfl (any_of HT_.out (by kernel_rfl)) (fun _ _ _ h => h) (Or.inl ⟨by rfl, ?_⟩) ?_ ?_
    rotate_left
    ·intro w'
     go_simp
     with_reducible rfl
    rotate_left
    ·simp only [Act.put, List.setIfInBounds_toArray, List.set_cons_zero, List.set_cons_succ, i64_w, i32_w]
     rfl
    refine pure_ (i := 40) (N := some 46) (v := ?_) (a' := ?_) Qx2_37 rfl rfl (any_of HT_.out (by kernel_rfl)) (fun _ _ _ h => h) (Or.inl ⟨by rfl, ?_⟩) ?_ ?_
    rotate_left
    ·intro w'
     go_simp
     with_reducible rfl
    rotate_left
    ·simp only [Act.put, List.setIfInBounds_toArray, List.set_cons_zero, List.set_cons_succ, i64_w, i32_w]
     rfl
    refine pure_ (i := 41) (N := some 47) (v := undef) (a' := ?_) Qx2_38 rfl rfl (any_of HT_.out (by kernel_rfl)) (fun _ _ _ h => h) (Or.inr ⟨by rfl, rfl⟩) ?_ ?_
    rotate_left
    ·simp only [Act.put, List.setIfInBounds_toArray, List.set_cons_zero, List.set_cons_succ, i64_w, i32_w]
     rfl
    refine pure_ (i := 42) (N := some 48) (v := undef) (a' := ?_) Qx2_39 rfl rfl (any_of HT_.out (by kernel_rfl)) (fun _ _ _ h => h) (Or.inr ⟨by rfl, rfl⟩) ?_ ?_
    rotate_left
    ·simp only [Act.put, List.setIfInBounds_toArray, List.set_cons_zero, List.set_cons_succ, i64_w, i32_w]
     rfl
    refine pure_ (i := 43) (N := some 49) (v := undef) (a' := ?_) Qx2_40 rfl rfl (any_of HT_.out (by kernel_rfl)) (fun _ _ _ h => h) (Or.inr ⟨by rfl, rfl⟩) ?_ ?_
    rotate_left
    ·simp only [Act.put, List.setIfInBounds_toArray, List.set_cons_zero, List.set_cons_succ, i64_w, i32_w]
     rfl
    refine pure_ (i := 44) (N := some 50) (v := undef) (a' := ?_) Qx2_41 rfl rfl (any_of HT_.out (by kernel_rfl)) (fun _ _ _ h => h) (Or.inr ⟨by rfl, rfl⟩) ?_ ?_
    rotate_left
    ·simp only [Act.put, List.setIfInBounds_toArray, List.set_cons_zero, List.set_cons_succ, i64_w, i32_w]
     rfl
    refine pure_ (i := 45) (N := some 51) (v := undef) (a' := ?_) Qx2_42 rfl rfl (any_of HT_.out (by kernel_rfl)) (fun _ _ _ h => h) (Or.inr ⟨by rfl, rfl⟩) ?_ ?_
    rotate_left
    ·simp only [Act.put, List.setIfInBounds_toArray, List.set_cons_zero, List.set_cons_succ, i64_w, i32_w]
     rfl
    refine pure_ (i := 46) (N := some 52) (v := ?_) (a' := ?_) Qx2_43 rfl rfl (any_of HT_.out (by kernel_rfl)) (fun _ _ _ h => h) (Or.inl ⟨by rfl, ?_⟩) ?_ ?_
    rotate_left
    ·intro w'
     go_simp
     with_reducible rfl
    rotate_left
    ·simp only [Act.put, List.setIfInBounds_toArray, List.set_cons_zero, List.set_cons_succ, i64_w, i32_w]
     rfl
    refine done_ (done_of HT_.out (by kernel_rfl)) ?_
    try go_wp2
    go_meet
    case rel => exact ⟨_, (true), (by first | rfl | (simp; done) | (simp [*]; done)), H', ⟨by first | omega | exact Nat.le_refl _⟩, ⟨by (with_reducible repeat (first | refine blk_drewN ?_ _ | refine blk_drew ?_ | refine blk_alloc ?_ _)); exact BK114.out⟩, ⟨by (with_reducible repeat (first | refine blk_drewN ?_ _ | refine blk_drew ?_ | refine blk_alloc ?_ _)); exact BK115.out⟩, ⟨by repeat (first | (with_reducible first | exact HB.out | apply below_alloc | apply pw_below_drewN | apply below_drew1 | refine below_set ?_ GE114.out | refine below_set ?_ GE115.out) | exact HB.out)⟩⟩
  ·replace c6 := Bool.eq_false_iff.mpr c6
   subst c6
   have H1 : (spec_SameVer.j0 k true l0_0 a0_1 a0_2 a0_3 false l1_1 a1_2 a1_3 a1_4 a1_5 a1_6 a1_7) = some r := by rw [if_neg (show ¬ (false = true) by decide)] at H; exact H
   clear H
   have H := H1
   clear H1
   have H' := Aside0.mk H
   clear H
   try go_wp2
   have n0_ := Aside0.mk (blk_drew BK114.out)
   have n1_ := Aside0.mk (blk_drew BK115.out)
   have n2_ := Aside0.mk (below_drew1 HB.out)
   clear BK114
   clear BK115
   clear HB
   have BK114 := n0_
   have BK115 := n1_
   have HB := n2_
   clear n0_ n1_ n2_
   refine start_ (n := 47) (S := fun w' => w'.cell? ⟨gb115, 0, none⟩ = some (.bool false) ∧ w'.cell? ⟨gb115, 1, none⟩ = some (.slice A1_1 l1_1.length c1_1) ∧ w'.cell? ⟨gb115, 2, none⟩ = some (.string a1_2) ∧ w'.cell? ⟨gb115, 3, none⟩ = some (.string a1_3) ∧ w'.cell? ⟨gb115, 4, none⟩ = some (.string a1_4) ∧ w'.cell? ⟨gb115, 5, none⟩ = some (.int .u64 a1_5) ∧ w'.cell? ⟨gb115, 6, none⟩ = some (.int .u64 a1_6) ∧ w'.cell? ⟨gb115, 7, none⟩ = some (.int .u64 a1_7)) (ds := []) Qx2_0 (by kernel_rfl) rfl rfl ⟨(blk_cell BK115.out 0).trans rfl, (blk_cell BK115.out 1).trans rfl, (blk_cell BK115.out 2).trans rfl, (blk_cell BK115.out 3).trans rfl, (blk_cell BK115.out 4).trans rfl, (blk_cell BK115.out 5).trans rfl, (blk_cell BK115.out 6).trans rfl, (blk_cell BK115.out 7).trans rfl⟩ (fun hHeld => ?_); refine with_tabW spec_SameVer.tab1 spec_SameVer.bits1 (fun HT_ HW_ => ?_)
   generalize w5.drew = w27 at BK114 BK115 HB hHeld ⊢
   refine pure_ (i := 0) (N := some 6) (v := ?_) (a' := ?_) Qx2_1 rfl rfl (any_of HT_.out (by kernel_rfl)) (fun _ _ _ h => h) (Or.inl ⟨by rfl, ?_⟩) ?_ ?_
   rotate_left
   ·intro w'
    go_simp
    with_reducible rfl
   rotate_left
   ·simp only [Act.put, List.setIfInBounds_toArray, List.set_cons_zero, List.set_cons_succ, i64_w, i32_w]
    rfl
   refine take_ (i := 1) (N := some 7) (v := ?_) (a' := ?_) Qx2_2 rfl rfl (take_ofW HT_.out HW_.out (by kernel_rfl)) (fun _ _ _ h => h) (Or.inl ⟨by rfl, ?_⟩) hHeld ?_ ?_
   rotate_left
   ·rintro w' ⟨s0, s1, s2, s3, s4, s5, s6, s7⟩
    go_simp
    with_reducible rfl
   rotate_left
   ·simp only [Act.put, List.setIfInBounds_toArray, List.set_cons_zero, List.set_cons_succ, i64_w, i32_w]
    rfl
   refine pure_ (i := 2) (N := some 8) (v := ?_) (a' := ?_) Qx2_3 rfl rfl (any_of HT_.out (by kernel_rfl)) (fun _ _ _ h => h) (Or.inl ⟨by rfl, ?_⟩) ?_ ?_
   rotate_left
   ·intro w'
    go_simp
    with_reducible rfl
   rotate_left
   ·simp only [Act.put, List.setIfInBounds_toArray, List.set_cons_zero, List.set_cons_succ, i64_w, i32_w]
    rfl
   refine pure_ (i := 3) (N := some 9) (v := ?_) (a' := ?_) Qx2_4 rfl rfl (any_of HT_.out (by kernel_rfl)) (fun _ _ _ h => h) (Or.inl ⟨by rfl, ?_⟩) ?_ ?_
   rotate_left
   ·intro w'
    go_simp
    with_reducible rfl
   rotate_left
   ·simp only [Act.put, List.setIfInBounds_toArray, List.set_cons_zero, List.set_cons_succ, i64_w, i32_w]
    rfl
   refine pure_ (i := 4) (N := some 10) (v := undef) (a' := ?_) Qx2_5 rfl rfl (any_of HT_.out (by kernel_rfl)) (fun _ _ _ h => h) (Or.inr ⟨by rfl, rfl⟩) ?_ ?_
   rotate_left
   ·simp only [Act.put, List.setIfInBounds_toArray, List.set_cons_zero, List.set_cons_succ, i64_w, i32_w]
    rfl
   refine pure_ (i := 5) (N := some 11) (v := undef) (a' := ?_) #[true, true, true, true, true, true, false, false, false, false, false, false, false, false, false, false, false, false, false, false, false, false, false, false, false, false, false, false, false, false, false, false, false, false, false, false, false, false, false, false, false, false, false, false, false, false, false] rfl rfl (any_of HT_.out (by kernel_rfl)) (fun _ _ _ h => h) (Or.inr ⟨by rfl, rfl⟩) ?_ ?_
   rotate_left
   ·simp only [Act.put, List.setIfInBounds_toArray, List.set_cons_zero, List.set_cons_succ, i64_w, i32_w]
    rfl
   refine pure_ (i := 6) (N := some 12) (v := undef) (a' := ?_) #[true, true, true, true, true, true, true, false, false, false, false, false, false, false, false, false, false, false, false, false, false, false, false, false, false, false, false, false, false, false, false, false, false, false, false, false, false, false, false, false, false, false, false, false, false, false, false] rfl rfl (any_of HT_.out (by kernel_rfl)) (fun _ _ _ h => h) (Or.inr ⟨by rfl, rfl⟩) ?_ ?_
   rotate_left
   ·simp only [Act.put, List.setIfInBounds_toArray, List.set_cons_zero, List.set_cons_succ, i64_w, i32_w]
    rfl
   refine pure_ (i := 7) (N := some 13) (v := undef) (a' := ?_) Qx2_6 rfl rfl (any_of HT_.out (by kernel_rfl)) (fun _ _ _ h => h) (Or.inr ⟨by rfl, rfl⟩) ?_ ?_
   rotate_left
   ·simp only [Act.put, List.setIfInBounds_toArray, List.set_cons_zero, List.set_cons_succ, i64_w, i32_w]
    rfl
   refine pure_ (i := 8) (N := some 14) (v := undef) (a' := ?_) Qx2_7 rfl rfl (any_of HT_.out (by kernel_rfl)) (fun _ _ _ h => h) (Or.inr ⟨by rfl, rfl⟩) ?_ ?_
   rotate_left
   ·simp only [Act.put, List.setIfInBounds_toArray, List.set_cons_zero, List.set_cons_succ, i64_w, i32_w]
    rfl
   refine pure_ (i := 9) (N := some 15) (v := undef) (a' := ?_) Qx2_8 rfl rfl (any_of HT_.out (by kernel_rfl)) (fun _ _ _ h => h) (Or.inr ⟨by rfl, rfl⟩) ?_ ?_
   rotate_left
   ·simp only [Act.put, List.setIfInBounds_toArray, List.set_cons_zero, List.set_cons_succ, i64_w, i32_w]
    rfl
   refine pure_ (i := 10) (N := some 16) (v := undef) (a' := ?_) Qx2_9 rfl rfl (any_of HT_.out (by kernel_rfl)) (fun _ _ _ h => h) (Or.inr ⟨by rfl, rfl⟩) ?_ ?_
   rotate_left
   ·simp only [Act.put, List.setIfInBounds_toArray, List.set_cons_zero, List.set_cons_succ, i64_w, i32_w]
    rfl
   refine pure_ (i := 11) (N := some 17) (v := ?_) (a' := ?_) Qx2_10 rfl rfl (any_of HT_.out (by kernel_rfl)) (fun _ _ _ h => h) (Or.inl ⟨by rfl, ?_⟩) ?_ ?_
   rotate_left
   ·intro w'
    go_simp
    with_reducible rfl
   rotate_left
   ·simp only [Act.put, List.setIfInBounds_toArray, List.set_cons_zero, List.set_cons_succ, i64_w, i32_w]
    rfl
   refine pure_ (i := 12) (N := some 18) (v := ?_) (a' := ?_) Qx2_11 rfl rfl (any_of HT_.out (by kernel_rfl)) (fun _ _ _ h => h) (Or.inl ⟨by rfl, ?_⟩) ?_ ?_
   rotate_left
   ·intro w'
    go_simp
    with_reducible rfl
   rotate_left
   ·simp only [Act.put, List.setIfInBounds_toArray, List.set_cons_zero, List.set_cons_succ, i64_w, i32_w]
    rfl
   refine pure_ (i := 13) (N := some 19) (v := undef) (a' := ?_) Qx2_12 rfl rfl (any_of HT_.out (by kernel_rfl)) (fun _ _ _ h => h) (Or.inr ⟨by rfl, rfl⟩) ?_ ?_
   rotate_left
   ·simp only [Act.put, List.setIfInBounds_toArray, List.set_cons_zero, List.set_cons_succ, i64_w, i32_w]
    rfl
   refine pure_ (i := 14) (N := some 20) (v := undef) (a' := ?_) Qx2_67 rfl rfl (any_of HT_.out (by kernel_rfl)) (fun _ _ _ h => h) (Or.inr ⟨by rfl, rfl⟩) ?_ ?_
   rotate_left
   ·simp only [Act.put, List.setIfInBounds_toArray, List.set_cons_zero, List.set_cons_succ, i64_w, i32_w]
    rfl
   refine pure_ (i := 15) (N := some 21) (v := undef) (a' := ?_) Qx2_13 rfl rfl (any_of HT_.out (by kernel_rfl)) (fun _ _ _ h => h) (Or.inr ⟨by rfl, rfl⟩) ?_ ?_
   rotate_left
   ·simp only [Act.put, List.setIfInBounds_toArray, List.set_cons_zero, List.set_cons_succ, i64_w, i32_w]
    rfl
   refine pure_ (i := 16) (N := some 22) (v := undef) (a' := ?_) Qx2_14 rfl rfl (any_of HT_.out (by kernel_rfl)) (fun _ _ _ h => h) (Or.inr ⟨by rfl, rfl⟩) ?_ ?_
   rotate_left
   ·simp only [Act.put, List.setIfInBounds_toArray, List.set_cons_zero, List.set_cons_succ, i64_w, i32_w]
    rfl
   refine pure_ (i := 17) (N := some 23) (v := undef) (a' := ?_) Qx2_15 rfl rfl (any_of HT_.out (by kernel_rfl)) (fun _ _ _ h => h) (Or.inr ⟨by rfl, rfl⟩) ?_ ?_
   rotate_left
   ·simp only [Act.put, List.setIfInBounds_toArray, List.set_cons_zero, List.set_cons_succ, i64_w, i32_w]
    rfl
   refine pure_ (i := 18) (N := some 24) (v := ?_) (a' := ?_) Qx2_16 rfl rfl (any_of HT_.out (by kernel_rfl)) (fun _ _ _ h => h) (Or.inl ⟨by rfl, ?_⟩) ?_ ?_
   rotate_left
   ·intro w'
    go_simp
    with_reducible rfl
   rotate_left
   ·simp only [Act.put, List.setIfInBounds_toArray, List.set_cons_zero, List.set_cons_succ, i64_w, i32_w]
    rfl
   refine pure_ (i := 19) (N := some 25) (v := ?_) (a' := ?_) Qx2_17 rfl rfl (any_of HT_.out (by kernel_rfl)) (fun _ _ _ h => h) (Or.inl ⟨by rfl, ?_⟩) ?_ ?_
   rotate_left
   ·intro w'
    go_simp
    with_reducible rfl
   rotate_left
   ·simp only [Act.put, List.setIfInBounds_toArray, List.set_cons_zero, List.set_cons_succ, i64_w, i32_w]
    rfl
   refine pure_ (i := 20) (N := some 26) (v := undef) (a' := ?_) Qx2_18 rfl rfl (any_of HT_.out (by kernel_rfl)) (fun _ _ _ h => h) (Or.inr ⟨by rfl, rfl⟩) ?_ ?_
   rotate_left
   ·simp only [Act.put, List.setIfInBounds_toArray, List.set_cons_zero, List.set_cons_succ, i64_w, i32_w]
    rfl
   refine pure_ (i := 21) (N := some 27) (v := undef) (a' := ?_) Qx2_48 rfl rfl (any_of HT_.out (by kernel_rfl)) (fun _ _ _ h => h) (Or.inr ⟨by rfl, rfl⟩) ?_ ?_
   rotate_left
   ·simp only [Act.put, List.setIfInBounds_toArray, List.set_cons_zero, List.set_cons_succ, i64_w, i32_w]
    rfl
   refine pure_ (i := 22) (N := some 28) (v := undef) (a' := ?_) Qx2_19 rfl rfl (any_of HT_.out (by kernel_rfl)) (fun _ _ _ h => h) (Or.inr ⟨by rfl, rfl⟩) ?_ ?_
   rotate_left
   ·simp only [Act.put, List.setIfInBounds_toArray, List.set_cons_zero, List.set_cons_succ, i64_w, i32_w]
    rfl
   refine pure_ (i := 23) (N := some 29) (v := undef) (a' := ?_) Qx2_20 rfl rfl (any_of HT_.out (by kernel_rfl)) (fun _ _ _ h => h) (Or.inr ⟨by rfl, rfl⟩) ?_ ?_
   rotate_left
   ·simp only [Act.put, List.setIfInBounds_toArray, List.set_cons_zero, List.set_cons_succ, i64_w, i32_w]
    rfl
   refine pure_ (i := 24) (N := some 30) (v := undef) (a' := ?_) Qx2_21 rfl rfl (any_of HT_.out (by kernel_rfl)) (fun _ _ _ h => h) (Or.inr ⟨by rfl, rfl⟩) ?_ ?_
   rotate_left
   ·simp only [Act.put, List.setIfInBounds_toArray, List.set_cons_zero, List.set_cons_succ, i64_w, i32_w]
    rfl
   refine pure_ (i := 25) (N := some 31) (v := ?_) (a' := ?_) Qx2_22 rfl rfl (any_of HT_.out (by kernel_rfl)) (fun _ _ _ h => h) (Or.inl ⟨by rfl, ?_⟩) ?_ ?_
   rotate_left
   ·intro w'
    go_simp
    with_reducible rfl
   rotate_left
   ·simp only [Act.put, List.setIfInBounds_toArray, List.set_cons_zero, List.set_cons_succ, i64_w, i32_w]
    rfl
   refine pure_ (i := 26) (N := some 32) (v := ?_) (a' := ?_) Qx2_23 rfl rfl (any_of HT_.out (by kernel_rfl)) (fun _ _ _ h => h) (Or.inl ⟨by rfl, ?_⟩) ?_ ?_
   rotate_left
   ·intro w'
    go_simp
    with_reducible rfl
   rotate_left
   ·simp only [Act.put, List.setIfInBounds_toArray, List.set_cons_zero, List.set_cons_succ, i64_w, i32_w]
    rfl
   refine pure_ (i := 27) (N := some 33) (v := undef) (a' := ?_) Qx2_24 rfl rfl (any_of HT_.out (by kernel_rfl)) (fun _ _ _ h => h) (Or.inr ⟨by rfl, rfl⟩) ?_ ?_
   rotate_left
   ·simp only [Act.put, List.setIfInBounds_toArray, List.set_cons_zero, List.set_cons_succ, i64_w, i32_w]
    rfl
   refine pure_ (i := 28) (N := some 34) (v := undef) (a' := ?_) Qx2_25 rfl rfl (any_of HT_.out (by kernel_rfl)) (fun _ _ _ h => h) (Or.inr ⟨by rfl, rfl⟩) ?_ ?_
   rotate_left
   ·simp only [Act.put, List.setIfInBounds_toArray, List.set_cons_zero, List.set_cons_succ, i64_w, i32_w]
    rfl
   refine pure_ (i := 29) (N := some 35) (v := undef) (a' := ?_) Qx2_26 rfl rfl (any_of HT_.out (by kernel_rfl)) (fun _ _ _ h => h) (Or.inr ⟨by rfl, rfl⟩) ?_ ?_
   rotate_left
   ·simp only [Act.put, List.setIfInBounds_toArray, List.set_cons_zero, List.set_cons_succ, i64_w, i32_w]
    rfl
   refine pure_ (i := 30) (N := some 36) (v := undef) (a' := ?_) Qx2_27 rfl rfl (any_of HT_.out (by kernel_rfl)) (fun _ _ _ h => h) (Or.inr ⟨by rfl, rfl⟩) ?_ ?_
   rotate_left
   ·simp only [Act.put, List.setIfInBounds_toArray, List.set_cons_zero, List.set_cons_succ, i64_w, i32_w]
    rfl
   refine pure_ (i := 31) (N := some 37) (v := undef) (a' := ?_) Qx2_28 rfl rfl (any_of HT_.out (by kernel_rfl)) (fun _ _ _ h => h) (Or.inr ⟨by rfl, rfl⟩) ?_ ?_
   rotate_left
   ·simp only [Act.put, List.setIfInBounds_toArray, List.set_cons_zero, List.set_cons_succ, i64_w, i32_w]
    rfl
   refine pure_ (i := 32) (N := some 38) (v := ?_) (a' := ?_) Qx2_29 rfl rfl (any_of HT_.out (by kernel_rfl)) (fun _ _ _ h => h) (Or.inl ⟨by rfl, ?_⟩) ?_ ?_
   rotate_left
   ·intro w'
    go_simp
    with_reducible rfl
   rotate_left
   ·simp only [Act.put, List.setIfInBounds_toArray, List.set_cons_zero, List.set_cons_succ, i64_w, i32_w]
    rfl
   refine pure_ (i := 33) (N := some 39) (v := ?_) (a' := ?_) Qx2_30 rfl rfl (any_of HT_.out (by kernel_rfl)) (fun _ _ _ h => h) (Or.inl ⟨by rfl, ?_⟩) ?_ ?_
   rotate_left
   ·intro w'
    go_simp
    with_reducible rfl
   rotate_left
   ·simp only [Act.put, List.setIfInBounds_toArray, List.set_cons_zero, List.set_cons_succ, i64_w, i32_w]
    rfl
   refine pure_ (i := 34) (N := some 40) (v := undef) (a' := ?_) Qx2_31 rfl rfl (any_of HT_.out (by kernel_rfl)) (fun _ _ _ h => h) (Or.inr ⟨by rfl, rfl⟩) ?_ ?_
   rotate_left
   ·simp only [Act.put, List.setIfInBounds_toArray, List.set_cons_zero, List.set_cons_succ, i64_w, i32_w]
    rfl
   refine pure_ (i := 35) (N := some 41) (v := undef) (a' := ?_) Qx2_32 rfl rfl (any_of HT_.out (by kernel_rfl)) (fun _ _ _ h => h) (Or.inr ⟨by rfl, rfl⟩) ?_ ?_
   rotate_left
   ·simp only [Act.put, List.setIfInBounds_toArray, List.set_cons_zero, List.set_cons_succ, i64_w, i32_w]
    rfl
   refine pure_ (i := 36) (N := some 42) (v := undef) (a' := ?_) Qx2_33 rfl rfl (any_of HT_.out (by kernel_rfl)) (fun _ _ _ h => h) (Or.inr ⟨by rfl, rfl⟩) ?_ ?_
   rotate_left
   ·simp only [Act.put, List.setIfInBounds_toArray, List.set_cons_zero, List.set_cons_succ, i64_w, i32_w]
    rfl
   refine pure_ (i := 37) (N := some 43) (v := undef) (a' := ?_) Qx2_34 rfl rfl (any_of HT_.out (by kernel_rfl)) (fun _ _ _ h => h) (Or.inr ⟨by rfl, rfl⟩) ?_ ?_
   rotate_left
   ·simp only [Act.put, List.setIfInBounds_toArray, List.set_cons_zero, List.set_cons_succ, i64_w, i32_w]
    rfl
   refine pure_ (i := 38) (N := some 44) (v := undef) (a' := ?_) Qx2_35 rfl rfl (any_of HT_.out (by kernel_rfl)) (fun _ _ _ h => h) (Or.inr ⟨by rfl, rfl⟩) ?_ ?_
   rotate_left
   ·simp only [Act.put, List.setIfInBounds_toArray, List.set_cons_zero, List.set_cons_succ, i64_w, i32_w]
    rfl
   refine pure_ (i := 39) (N := some 45) (v := ?_) (a' := ?_) Qx2_36 rfl rfl (any_of HT_.out (by kernel_rfl)) (fun _ _ _ h => h) (Or.inl ⟨by rfl, ?_⟩) ?_ ?_
   rotate_left
   ·intro w'
    go_simp
    with_reducible rfl
   rotate_left
   ·simp only [Act.put, List.setIfInBounds_toArray, List.set_cons_zero, List.set_cons_succ, i64_w, i32_w]
    rfl
   refine pure_ (i := 40) (N := some 46) (v := ?_) (a' := ?_) Qx2_37 rfl rfl (any_of HT_.out (by kernel_rfl)) (fun _ _ _ h => h) (Or.inl ⟨by rfl, ?_⟩) ?_ ?_
   rotate_left
   ·intro w'
    go_simp
    with_reducible rfl
   rotate_left
   ·simp only [Act.put, List.setIfInBounds_toArray, List.set_cons_zero, List.set_cons_succ, i64_w, i32_w]
    rfl
   refine pure_ (i := 41) (N := some 47) (v := undef) (a' := ?_) Qx2_38 rfl rfl (any_of HT_.out (by kernel_rfl)) (fun _ _ _ h => h) (Or.inr ⟨by rfl, rfl⟩) ?_ ?_
   rotate_left
   ·simp only [Act.put, List.setIfInBounds_toArray, List.set_cons_zero, List.set_cons_succ, i64_w, i32_w]
    rfl
   refine pure_ (i := 42) (N := some 48) (v := undef) (a' := ?_) Qx2_39 rfl rfl (any_of HT_.out (by kernel_rfl)) (fun _ _ _ h => h) (Or.inr ⟨by rfl, rfl⟩) ?_ ?_
   rotate_left
   ·simp only [Act.put, List.setIfInBounds_toArray, List.set_cons_zero, List.set_cons_succ, i64_w, i32_w]
    rfl
   refine pure_ (i := 43) (N := some 49) (v := undef) (a' := ?_) Qx2_40 rfl rfl (any_of HT_.out (by kernel_rfl)) (fun _ _ _ h => h) (Or.inr ⟨by rfl, rfl⟩) ?_ ?_
   rotate_left
   ·simp only [Act.put, List.setIfInBounds_toArray, List.set_cons_zero, List.set_cons_succ, i64_w, i32_w]
    rfl
   refine pure_ (i := 44) (N := some 50) (v := undef) (a' := ?_) Qx2_41 rfl rfl (any_of HT_.out (by kernel_rfl)) (fun _ _ _ h => h) (Or.inr ⟨by rfl, rfl⟩) ?_ ?_
   rotate_left
   ·simp only [Act.put, List.setIfInBounds_toArray, List.set_cons_zero, List.set_cons_succ, i64_w, i32_w]
    rfl
   refine pure_ (i := 45) (N := some 51) (v := undef) (a' := ?_) Qx2_42 rfl rfl (any_of HT_.out (by kernel_rfl)) (fun _ _ _ h => h) (Or.inr ⟨by rfl, rfl⟩) ?_ ?_
   rotate_left
   ·simp only [Act.put, List.setIfInBounds_toArray, List.set_cons_zero, List.set_cons_succ, i64_w, i32_w]
    rfl
   refine pure_ (i := 46) (N := some 52) (v := ?_) (a' := ?_) Qx2_43 rfl rfl (any_of HT_.out (by kernel_rfl)) (fun _ _ _ h => h) (Or.inl ⟨by rfl, ?_⟩) ?_ ?_
   rotate_left
   ·intro w'
    go_simp
    with_reducible rfl
   rotate_left
   ·simp only [Act.put, List.setIfInBounds_toArray, List.set_cons_zero, List.set_cons_succ, i64_w, i32_w]
    rfl
   refine done_ (done_of HT_.out (by kernel_rfl)) ?_
   try go_wp2
   go_meet
   case rel => exact ⟨_, (true), (by first | rfl | (simp; done) | (simp [*]; done)), H', ⟨by first | omega | exact Nat.le_refl _⟩, ⟨by (with_reducible repeat (first | refine blk_drewN ?_ _ | refine blk_drew ?_ | refine blk_alloc ?_ _)); exact BK114.out⟩, ⟨by (with_reducible repeat (first | refine blk_drewN ?_ _ | refine blk_drew ?_ | refine blk_alloc ?_ _)); exact BK115.out⟩, ⟨by repeat (first | (with_reducible first | exact HB.out | apply below_alloc | apply pw_below_drewN | apply below_drew1 | refine below_set ?_ GE114.out | refine below_set ?_ GE115.out) | exact HB.out)⟩⟩
 case rest =>
  clear HC3
  try clear c1
  try clear p2
  try clear c6
  try clear c7
  try clear c7b0
  try clear c7b1
  try clear c7b2
  obtain ⟨kq, x52_2, rfl, HA, HJ2, BK114, BK115, HB⟩ := hcut
  cases kq with
  | zero => exact absurd HA.out (by simp [spec_SameVer.j0])
  | succ kj2 =>
   have H := HA.out
   clear HA
   simp only [spec_SameVer.j0] at H
   by_cases c28 : x52_2 = true
   ·subst c28
    have H1 : (some false) = some r := by rw [if_pos rfl] at H; exact H
    clear H
    have H := H1
    clear H1
    obtain rfl := Option.some.inj H
    go_wp2
    go_ret
    exact ⟨by first | rfl | (simp [errW_none, errW_some] <;> rfl) | (simp [*, errW_none, errW_some] <;> rfl), by repeat (first | (with_reducible first | exact HB.out | apply below_alloc | apply pw_below_drewN | apply below_drew1 | refine below_set ?_ GE114.out | refine below_set ?_ GE115.out) | exact HB.out)⟩
   ·replace c28 := Bool.eq_false_iff.mpr c28
    subst c28
    have H1 : (spec_SameVer.l0 kj2 0 l0_0 a0_1 a0_2 a0_3 a1_0 l1_1 a1_2 a1_3 a1_4 a1_5 a1_6 a1_7) = some r := by rw [if_neg (show ¬ (false = true) by decide)] at H; exact H
    clear H
    have H := H1
    clear H1
    have H' := Aside0.mk H
    clear H
    go_wp2
    go_loopg [5] kj2 (fun kq v5 w' => ∃ (x5_2 : Int), v5 = .int .i64 x5_2 ∧ Aside0 (spec_SameVer.l0 kq x5_2 l0_0 a0_1 a0_2 a0_3 a1_0 l1_1 a1_2 a1_3 a1_4 a1_5 a1_6 a1_7 = some r) ∧ Aside0 (kq ≤ kj2) ∧ Aside0 (w'.heap[gb114]? = some (.cells #[(.slice A0_0 l0_0.length c0_0), .bool a0_1, .string a0_2, .string a0_3] 25 (0, 0))) ∧ Aside0 (w'.heap[gb115]? = some (.cells #[.bool a1_0, (.slice A1_1 l1_1.length c1_1), .string a1_2, .string a1_3, .string a1_4, .int .u64 a1_5, .int .u64 a1_6, .int .u64 a1_7] 46 (0, 0))) ∧ Aside0 (Below w.heap.size w w'))
    case atStart => exact ⟨(0), (by first | rfl | (simp; done) | (simp [*]; done)), H', ⟨Nat.le_refl _⟩, ⟨by (with_reducible repeat (first | refine blk_drewN ?_ _ | refine blk_drew ?_ | refine blk_alloc ?_ _)); exact BK114.out⟩, ⟨by (with_reducible repeat (first | refine blk_drewN ?_ _ | refine blk_drew ?_ | refine blk_alloc ?_ _)); exact BK115.out⟩, ⟨by repeat (first | (with_reducible first | exact HB.out | apply below_alloc | apply pw_below_drewN | apply below_drew1 | refine below_set ?_ GE114.out | refine below_set ?_ GE115.out) | exact HB.out)⟩⟩
    case round =>
     clear H'
     try clear c1
     try clear c2
     try clear p2
     try clear c6
     try clear c7
     try clear c7b0
     try clear c7b1
     try clear c7b2
     try clear c28
     try clear p2
     obtain ⟨x5_2, rfl, HA, HK2, BK114, BK115, HB⟩ := hrel
     cases gk with
     | zero => exact absurd HA.out (by simp [spec_SameVer.l0])
     | succ k2 =>
      have H := HA.out
      clear HA
      simp only [spec_SameVer.l0] at H
      by_cases c29 : x5_2 < (l0_0.length : Int)
      ·rw [if_pos c29] at H
       have c29b0 : decide (x5_2 < (l0_0.length : Int)) = true := decide_eq_true c29
       clear c29
       by_cases c30 : 0 ≤ x5_2
       ·rw [if_pos c30] at H
        have c30b0 : decide (0 ≤ x5_2) = true := decide_eq_true c30
        clear c30
        by_cases c31 : x5_2 < (l1_1.length : Int)
        ·rw [if_pos c31] at H
         have c31b0 : decide (x5_2 < (l1_1.length : Int)) = true := decide_eq_true c31
         clear c31
         by_cases c32 : (rd l1_1 x5_2) = (rd l0_0 x5_2)
         ·rw [if_pos c32] at H
          have c32b0 : ((rd l1_1 x5_2) == (rd l0_0 x5_2)) = true := beq_iff_eq.mpr c32
          have c32b1 : ((rd l1_1 x5_2) != (rd l0_0 x5_2)) = false := bne_eq_false_iff_eq.mpr c32
          clear c32
          have H' := Aside0.mk H
          clear H
          have hnb33 := NB114_115.out
          have hnc33 := NB115_114.out
          have hcz34_0 : wr.cell? ⟨gb114, 0, none⟩ = some (.slice A0_0 l0_0.length c0_0) := (blk_cell BK114.out 0).trans rfl
          have hcz34_1 : wr.cell? ⟨gb114, 1, none⟩ = some (.bool a0_1) := (blk_cell BK114.out 1).trans rfl
          have hcz34_2 : wr.cell? ⟨gb114, 2, none⟩ = some (.string a0_2) := (blk_cell BK114.out 2).trans rfl
          have hcz34_3 : wr.cell? ⟨gb114, 3, none⟩ = some (.string a0_3) := (blk_cell BK114.out 3).trans rfl
          have hfz34_0 := blk_frozen BK114.out 0
          have hfz34_1 := blk_frozen BK114.out 1
          have hfz34_2 := blk_frozen BK114.out 2
          have hfz34_3 := blk_frozen BK114.out 3
          try go_wp2
          have n0_ := Aside0.mk (blk_drew BK114.out)
          have n1_ := Aside0.mk (blk_drew BK115.out)
          have n2_ := Aside0.mk (below_drew1 HB.out)
          clear BK114
          clear BK115
          clear HB
          have BK114 := n0_
          have BK115 := n1_
          have HB := n2_
          clear n0_ n1_ n2_
          have p119 : 0 ≤ (x5_2 : Int) := of_decide_eq_true (by assumption)
          have q119 : x5_2 < (l1_1.length : Int) := of_decide_eq_true (by assumption)
          obtain ⟨ad119, e119, hx119_0⟩ := Kd.at_int HR1_1.out x5_2 p119 q119
          have hw119_0 := hx119_0
          cases e119
          replace hx119_0 := (HB.out.cell (World.block_lt_of_cell? w _ hx119_0)).trans hx119_0
          replace p119 := eq_true p119
          replace q119 := eq_true q119
          have p120 : 0 ≤ (x5_2 : Int) := of_decide_eq_true (by assumption)
          have q120 : x5_2 < (l0_0.length : Int) := of_decide_eq_true (by assumption)
          obtain ⟨ad120, e120, hx120_0⟩ := Kd.at_int HR0_0.out x5_2 p120 q120
          have hw120_0 := hx120_0
          cases e120
          replace hx120_0 := (HB.out.cell (World.block_lt_of_cell? w _ hx120_0)).trans hx120_0
          replace p120 := eq_true p120
          replace q120 := eq_true q120
          refine start_ (n := 11) (S := fun w' => w'.cell? ⟨gb115, 0, none⟩ = some (.bool a1_0) ∧ w'.cell? ⟨gb115, 1, none⟩ = some (.slice (some ad119) l1_1.length c1_1) ∧ w'.cell? ⟨gb115, 2, none⟩ = some (.string a1_2) ∧ w'.cell? ⟨gb115, 3, none⟩ = some (.string a1_3) ∧ w'.cell? ⟨gb115, 4, none⟩ = some (.string a1_4) ∧ w'.cell? ⟨gb115, 5, none⟩ = some (.int .u64 a1_5) ∧ w'.cell? ⟨gb115, 6, none⟩ = some (.int .u64 a1_6) ∧ w'.cell? ⟨gb115, 7, none⟩ = some (.int .u64 a1_7) ∧ w'.cell? ⟨gb114, 0, none⟩ = some (.slice (some ad120) l0_0.length c0_0) ∧ w'.cell? ⟨gb114, 1, none⟩ = some (.bool a0_1) ∧ w'.cell? ⟨gb114, 2, none⟩ = some (.string a0_2) ∧ w'.cell? ⟨gb114, 3, none⟩ = some (.string a0_3) ∧ w'.cell? (ad119.add (x5_2).toNat) = some (.int .u64 (rd l1_1 x5_2)) ∧ w'.cell? (ad120.add (x5_2).toNat) = some (.int .u64 (rd l0_0 x5_2))) (ds := []) Qx2_68 (by kernel_rfl) rfl rfl ⟨(blk_cell BK115.out 0).trans rfl, (blk_cell BK115.out 1).trans rfl, (blk_cell BK115.out 2).trans rfl, (blk_cell BK115.out 3).trans rfl, (blk_cell BK115.out 4).trans rfl, (blk_cell BK115.out 5).trans rfl, (blk_cell BK115.out 6).trans rfl, (blk_cell BK115.out 7).trans rfl, (blk_cell BK114.out 0).trans rfl, (blk_cell BK114.out 1).trans rfl, (blk_cell BK114.out 2).trans rfl, (blk_cell BK114.out 3).trans rfl, ((HB.out.cell (World.block_lt_of_cell? w _ hw119_0)).trans hw119_0), ((HB.out.cell (World.block_lt_of_cell? w _ hw120_0)).trans hw120_0)⟩ (fun hHeld => ?_); refine with_tabW spec_SameVer.tab6 spec_SameVer.bits6 (fun HT_ HW_ => ?_)
          generalize wr.drew = w35 at BK114 BK115 HB hx119_0 hx120_0 hHeld ⊢
          refine pure_ (i := 0) (N := some 60) (v := ?_) (a' := ?_) Qx2_69 rfl rfl (any_of HT_.out (by kernel_rfl)) (fun _ _ _ h => h) (Or.inl ⟨by rfl, ?_⟩) ?_ ?_
          rotate_left
          ·intro w'
           go_simp
           with_reducible rfl
          rotate_left
          ·simp only [Act.put, List.setIfInBounds_toArray, List.set_cons_zero, List.set_cons_succ, i64_w, i32_w]
           rfl
          refine pure_ (i := 2) (N := some 62) (v := ?_) (a' := ?_) Qx2_70 rfl rfl (any_of HT_.out (by kernel_rfl)) (fun _ _ _ h => h) (Or.inl ⟨by rfl, ?_⟩) ?_ ?_
          rotate_left
          ·intro w'
           go_simp
           with_reducible rfl
          rotate_left
          ·simp only [Act.put, List.setIfInBounds_toArray, List.set_cons_zero, List.set_cons_succ, i64_w, i32_w]
           rfl
          refine pure_ (i := 5) (N := some 65) (v := ?_) (a' := ?_) Qx2_71 rfl rfl (any_of HT_.out (by kernel_rfl)) (fun _ _ _ h => h) (Or.inl ⟨by rfl, ?_⟩) ?_ ?_
          rotate_left
          ·intro w'
           go_simp
           with_reducible rfl
          rotate_left
          ·simp only [Act.put, List.setIfInBounds_toArray, List.set_cons_zero, List.set_cons_succ, i64_w, i32_w]
           rfl
          refine pure_ (i := 7) (N := some 67) (v := ?_) (a' := ?_) Qx2_72 rfl rfl (any_of HT_.out (by kernel_rfl)) (fun _ _ _ h => h) (Or.inl ⟨by rfl, ?_⟩) ?_ ?_
          rotate_left
          ·intro w'
           go_simp
           with_reducible rfl
          rotate_left
          ·simp only [Act.put, List.setIfInBounds_toArray, List.set_cons_zero, List.set_cons_succ, i64_w, i32_w]
           rfl
          refine take_ (i := 1) (N := some 61) (v := ?_) (a' := ?_) Qx2_73 rfl rfl (take_ofW HT_.out HW_.out (by kernel_rfl)) (fun _ _ _ h => h) (Or.inl ⟨by rfl, ?_⟩) hHeld ?_ ?_
          rotate_left
          ·rintro w' ⟨s0, s1, s2, s3, s4, s5, s6, s7, s8, s9, s10, s11, s12, s13⟩
           go_simp
           with_reducible rfl
          rotate_left
          ·simp only [Act.put, List.setIfInBounds_toArray, List.set_cons_zero, List.set_cons_succ, i64_w, i32_w]
           rfl
          refine pure_ (i := 3) (N := some 63) (v := ?_) (a' := ?_) Qx2_74 rfl rfl (any_of HT_.out (by kernel_rfl)) (fun _ _ _ h => h) (Or.inl ⟨by rfl, ?_⟩) ?_ ?_
          rotate_left
          ·intro w'
           go_simp
           with_reducible rfl
          rotate_left
          ·simp only [Act.put, List.setIfInBounds_toArray, List.set_cons_zero, List.set_cons_succ, i64_w, i32_w]
           rfl
          refine take_ (i := 4) (N := some 64) (v := ?_) (a' := ?_) Qx2_75 rfl rfl (take_ofW HT_.out HW_.out (by kernel_rfl)) (fun _ _ _ h => h) (Or.inl ⟨by rfl, ?_⟩) hHeld ?_ ?_
          rotate_left
          ·rintro w' ⟨s0, s1, s2, s3, s4, s5, s6, s7, s8, s9, s10, s11, s12, s13⟩
           go_simp
           with_reducible rfl
          rotate_left
          ·simp only [Act.put, List.setIfInBounds_toArray, List.set_cons_zero, List.set_cons_succ, i64_w, i32_w]
           rfl
          refine take_ (i := 6) (N := some 66) (v := ?_) (a' := ?_) Qx2_76 rfl rfl (take_ofW HT_.out HW_.out (by kernel_rfl)) (fun _ _ _ h => h) (Or.inl ⟨by rfl, ?_⟩) hHeld ?_ ?_
          rotate_left
          ·rintro w' ⟨s0, s1, s2, s3, s4, s5, s6, s7, s8, s9, s10, s11, s12, s13⟩
           go_simp
           with_reducible rfl
          rotate_left
          ·simp only [Act.put, List.setIfInBounds_toArray, List.set_cons_zero, List.set_cons_succ, i64_w, i32_w]
           rfl
          refine pure_ (i := 8) (N := some 68) (v := ?_) (a' := ?_) Qx2_77 rfl rfl (any_of HT_.out (by kernel_rfl)) (fun _ _ _ h => h) (Or.inl ⟨by rfl, ?_⟩) ?_ ?_
          rotate_left
          ·intro w'
           go_simp
           with_reducible rfl
          rotate_left
          ·simp only [Act.put, List.setIfInBounds_toArray, List.set_cons_zero, List.set_cons_succ, i64_w, i32_w]
           rfl
          refine take_ (i := 9) (N := some 69) (v := ?_) (a' := ?_) Qx2_78 rfl rfl (take_ofW HT_.out HW_.out (by kernel_rfl)) (fun _ _ _ h => h) (Or.inl ⟨by rfl, ?_⟩) hHeld ?_ ?_
          rotate_left
          ·rintro w' ⟨s0, s1, s2, s3, s4, s5, s6, s7, s8, s9, s10, s11, s12, s13⟩
           go_simp
           with_reducible rfl
          rotate_left
          ·simp only [Act.put, List.setIfInBounds_toArray, List.set_cons_zero, List.set_cons_succ, i64_w, i32_w]
           rfl
          refine pure_ (i := 10) (N := some 70) (v := ?_) (a' := ?_) Qx2_79 rfl rfl (any_of HT_.out (by kernel_rfl)) (fun _ _ _ h => h) (Or.inl ⟨by rfl, ?_⟩) ?_ ?_
          rotate_left
          ·intro w'
           go_simp
           with_reducible rfl
          rotate_left
          ·simp only [Act.put, List.setIfInBounds_toArray, List.set_cons_zero, List.set_cons_succ, i64_w, i32_w]
           rfl
          refine done_ (done_of HT_.out (by kernel_rfl)) ?_
          try go_wp2
          go_roundg k2
          case measure => have := HJ2.out; have := HK2.out; omega
          case rel => exact ⟨(wrap64 (x5_2 + 1)), (by first | rfl | (simp; done) | (simp [*]; done)), H', ⟨by have := HJ2.out; have := HK2.out; omega⟩, ⟨by (with_reducible repeat (first | refine blk_drewN ?_ _ | refine blk_drew ?_ | refine blk_alloc ?_ _)); exact BK114.out⟩, ⟨by (with_reducible repeat (first | refine blk_drewN ?_ _ | refine blk_drew ?_ | refine blk_alloc ?_ _)); exact BK115.out⟩, ⟨by repeat (first | (with_reducible first | exact HB.out | apply below_alloc | apply pw_below_drewN | apply below_drew1 | refine below_set ?_ GE114.out | refine below_set ?_ GE115.out) | exact HB.out)⟩⟩
         ·rw [if_neg c32] at H
          have c32b0 : ((rd l1_1 x5_2) == (rd l0_0 x5_2)) = false := beq_eq_false_iff_ne.mpr c32
          have c32b1 : ((rd l1_1 x5_2) != (rd l0_0 x5_2)) = true := bne_iff_ne.mpr c32
          obtain rfl := Option.some.inj H
          have hnb36 := NB114_115.out
          have hnc36 := NB115_114.out
          have hcz37_0 : wr.cell? ⟨gb114, 0, none⟩ = some (.slice A0_0 l0_0.length c0_0) := (blk_cell BK114.out 0).trans rfl
          have hcz37_1 : wr.cell? ⟨gb114, 1, none⟩ = some (.bool a0_1) := (blk_cell BK114.out 1).trans rfl
          have hcz37_2 : wr.cell? ⟨gb114, 2, none⟩ = some (.string a0_2) := (blk_cell BK114.out 2).trans rfl
          have hcz37_3 : wr.cell? ⟨gb114, 3, none⟩ = some (.string a0_3) := (blk_cell BK114.out 3).trans rfl
          have hfz37_0 := blk_frozen BK114.out 0
          have hfz37_1 := blk_frozen BK114.out 1
          have hfz37_2 := blk_frozen BK114.out 2
          have hfz37_3 := blk_frozen BK114.out 3
          try go_wp2
          have n0_ := Aside0.mk (blk_drew BK114.out)
          have n1_ := Aside0.mk (blk_drew BK115.out)
          have n2_ := Aside0.mk (below_drew1 HB.out)
          clear BK114
          clear BK115
          clear HB
          have BK114 := n0_
          have BK115 := n1_
          have HB := n2_
          clear n0_ n1_ n2_
          have p119 : 0 ≤ (x5_2 : Int) := of_decide_eq_true (by assumption)
          have q119 : x5_2 < (l1_1.length : Int) := of_decide_eq_true (by assumption)
          obtain ⟨ad119, e119, hx119_0⟩ := Kd.at_int HR1_1.out x5_2 p119 q119
          have hw119_0 := hx119_0
          cases e119
          replace hx119_0 := (HB.out.cell (World.block_lt_of_cell? w _ hx119_0)).trans hx119_0
          replace p119 := eq_true p119
          replace q119 := eq_true q119
          have p120 : 0 ≤ (x5_2 : Int) := of_decide_eq_true (by assumption)
          have q120 : x5_2 < (l0_0.length : Int) := of_decide_eq_true (by assumption)
          obtain ⟨ad120, e120, hx120_0⟩ := Kd.at_int HR0_0.out x5_2 p120 q120
          have hw120_0 := hx120_0
          cases e120
          replace hx120_0 := (HB.out.cell (World.block_lt_of_cell? w _ hx120_0)).trans hx120_0
          replace p120 := eq_true p120
          replace q120 := eq_true q120
          refine start_ (n := 11) (S := fun w' => w'.cell? ⟨gb115, 0, none⟩ = some (.bool a1_0) ∧ w'.cell? ⟨gb115, 1, none⟩ = some (.slice (some ad119) l1_1.length c1_1) ∧ w'.cell? ⟨gb115, 2, none⟩ = some (.string a1_2) ∧ w'.cell? ⟨gb115, 3, none⟩ = some (.string a1_3) ∧ w'.cell? ⟨gb115, 4, none⟩ = some (.string a1_4) ∧ w'.cell? ⟨gb115, 5, none⟩ = some (.int .u64 a1_5) ∧ w'.cell? ⟨gb115, 6, none⟩ = some (.int .u64 a1_6) ∧ w'.cell? ⟨gb115, 7, none⟩ = some (.int .u64 a1_7) ∧ w'.cell? ⟨gb114, 0, none⟩ = some (.slice (some ad120) l0_0.length c0_0) ∧ w'.cell? ⟨gb114, 1, none⟩ = some (.bool a0_1) ∧ w'.cell? ⟨gb114, 2, none⟩ = some (.string a0_2) ∧ w'.cell? ⟨gb114, 3, none⟩ = some (.string a0_3) ∧ w'.cell? (ad119.add (x5_2).toNat) = some (.int .u64 (rd l1_1 x5_2)) ∧ w'.cell? (ad120.add (x5_2).toNat) = some (.int .u64 (rd l0_0 x5_2))) (ds := []) Qx2_68 (by kernel_rfl) rfl rfl ⟨(blk_cell BK115.out 0).trans rfl, (blk_cell BK115.out 1).trans rfl, (blk_cell BK115.out 2).trans rfl, (blk_cell BK115.out 3).trans rfl, (blk_cell BK115.out 4).trans rfl, (blk_cell BK115.out 5).trans rfl, (blk_cell BK115.out 6).trans rfl, (blk_cell BK115.out 7).trans rfl, (blk_cell BK114.out 0).trans rfl, (blk_cell BK114.out 1).trans rfl, (blk_cell BK114.out 2).trans rfl, (blk_cell BK114.out 3).trans rfl, ((HB.out.cell (World.block_lt_of_cell? w _ hw119_0)).trans hw119_0), ((HB.out.cell (World.block_lt_of_cell? w _ hw120_0)).trans hw120_0)⟩ (fun hHeld => ?_); refine with_tabW spec_SameVer.tab6 spec_SameVer.bits6 (fun HT_ HW_ => ?_)
          generalize wr.drew = w38 at BK114 BK115 HB hx119_0 hx120_0 hHeld ⊢
          refine pure_ (i := 0) (N := some 60) (v := ?_) (a' := ?_) Qx2_69 rfl rfl (any_of HT_.out (by kernel_rfl)) (fun _ _ _ h => h) (Or.inl ⟨by rfl, ?_⟩) ?_ ?_
          rotate_left
          ·intro w'
           go_simp
           with_reducible rfl
          rotate_left
          ·simp only [Act.put, List.setIfInBounds_toArray, List.set_cons_zero, List.set_cons_succ, i64_w, i32_w]
           rfl
          refine pure_ (i := 2) (N := some 62) (v := ?_) (a' := ?_) Qx2_70 rfl rfl (any_of HT_.out (by kernel_rfl)) (fun _ _ _ h => h) (Or.inl ⟨by rfl, ?_⟩) ?_ ?_
          rotate_left
          ·intro w'
           go_simp
           with_reducible rfl
          rotate_left
          ·simp only [Act.put, List.setIfInBounds_toArray, List.set_cons_zero, List.set_cons_succ, i64_w, i32_w]
           rfl
          refine pure_ (i := 5) (N := some 65) (v := ?_) (a' := ?_) Qx2_71 rfl rfl (any_of HT_.out (by kernel_rfl)) (fun _ _ _ h => h) (Or.inl ⟨by rfl, ?_⟩) ?_ ?_
          rotate_left
          ·intro w'
           go_simp
           with_reducible rfl
          rotate_left
          ·simp only [Act.put, List.setIfInBounds_toArray, List.set_cons_zero, List.set_cons_succ, i64_w, i32_w]
           rfl
          refine pure_ (i := 7) (N := some 67) (v := ?_) (a' := ?_) Qx2_72 rfl rfl (any_of HT_.out (by kernel_rfl)) (fun _ _ _ h => h) (Or.inl ⟨by rfl, ?_⟩) ?_ ?_
          rotate_left
          ·intro w'
           go_simp
           with_reducible rfl
          rotate_left
          ·simp only [Act.put, List.setIfInBounds_toArray, List.set_cons_zero, List.set_cons_succ, i64_w, i32_w]
           rfl
          refine take_ (i := 1) (N := some 61) (v := ?_) (a' := ?_) Qx2_73 rfl rfl (take_ofW HT_.out HW_.out (by kernel_rfl)) (fun _ _ _ h => h) (Or.inl ⟨by rfl, ?_⟩) hHeld ?_ ?_
          rotate_left
          ·rintro w' ⟨s0, s1, s2, s3, s4, s5, s6, s7, s8, s9, s10, s11, s12, s13⟩
           go_simp
           with_reducible rfl
          rotate_left
          ·simp only [Act.put, List.setIfInBounds_toArray, List.set_cons_zero, List.set_cons_succ, i64_w, i32_w]
           rfl
          refine pure_ (i := 3) (N := some 63) (v := ?_) (a' := ?_) Qx2_74 rfl rfl (any_of HT_.out (by kernel_rfl)) (fun _ _ _ h => h) (Or.inl ⟨by rfl, ?_⟩) ?_ ?_
          rotate_left
          ·intro w'
           go_simp
           with_reducible rfl
          rotate_left
          ·simp only [Act.put, List.setIfInBounds_toArray, List.set_cons_zero, List.set_cons_succ, i64_w, i32_w]
           rfl
          refine take_ (i := 4) (N := some 64) (v := ?_) (a' := ?_) Qx2_75 rfl rfl (take_ofW HT_.out HW_.out (by kernel_rfl)) (fun _ _ _ h => h) (Or.inl ⟨by rfl, ?_⟩) hHeld ?_ ?_
          rotate_left
          ·rintro w' ⟨s0, s1, s2, s3, s4, s5, s6, s7, s8, s9, s10, s11, s12, s13⟩
           go_simp
           with_reducible rfl
          rotate_left
          ·simp only [Act.put, List.setIfInBounds_toArray, List.set_cons_zero, List.set_cons_succ, i64_w, i32_w]
           rfl
          refine take_ (i := 6) (N := some 66) (v := ?_) (a' := ?_) Qx2_76 rfl rfl (take_ofW HT_.out HW_.out (by kernel_rfl)) (fun _ _ _ h => h) (Or.inl ⟨by rfl, ?_⟩) hHeld ?_ ?_
          rotate_left
          ·rintro w' ⟨s0, s1, s2, s3, s4, s5, s6, s7, s8, s9, s10, s11, s12, s13⟩
           go_simp
           with_reducible rfl
          rotate_left
          ·simp only [Act.put, List.setIfInBounds_toArray, List.set_cons_zero, List.set_cons_succ, i64_w, i32_w]
           rfl
          refine pure_ (i := 8) (N := some 68) (v := ?_) (a' := ?_) Qx2_77 rfl rfl (any_of HT_.out (by kernel_rfl)) (fun _ _ _ h => h) (Or.inl ⟨by rfl, ?_⟩) ?_ ?_
          rotate_left
          ·intro w'
           go_simp
           with_reducible rfl
          rotate_left
          ·simp only [Act.put, List.setIfInBounds_toArray, List.set_cons_zero, List.set_cons_succ, i64_w, i32_w]
           rfl
          refine take_ (i := 9) (N := some 69) (v := ?_) (a' := ?_) Qx2_78 rfl rfl (take_ofW HT_.out HW_.out (by kernel_rfl)) (fun _ _ _ h => h) (Or.inl ⟨by rfl, ?_⟩) hHeld ?_ ?_
          rotate_left
          ·rintro w' ⟨s0, s1, s2, s3, s4, s5, s6, s7, s8, s9, s10, s11, s12, s13⟩
           go_simp
           with_reducible rfl
          rotate_left
          ·simp only [Act.put, List.setIfInBounds_toArray, List.set_cons_zero, List.set_cons_succ, i64_w, i32_w]
           rfl
          refine pure_ (i := 10) (N := some 70) (v := ?_) (a' := ?_) Qx2_79 rfl rfl (any_of HT_.out (by kernel_rfl)) (fun _ _ _ h => h) (Or.inl ⟨by rfl, ?_⟩) ?_ ?_
          rotate_left
          ·intro w'
           go_simp
           with_reducible rfl
          rotate_left
          ·simp only [Act.put, List.setIfInBounds_toArray, List.set_cons_zero, List.set_cons_succ, i64_w, i32_w]
           rfl
          refine done_ (done_of HT_.out (by kernel_rfl)) ?_
          try go_wp2
          go_ret
          exact ⟨by first | rfl | (simp [errW_none, errW_some] <;> rfl) | (simp [*, errW_none, errW_some] <;> rfl), by repeat (first | (with_reducible first | exact HB.out | apply below_alloc | apply pw_below_drewN | apply below_drew1 | refine below_set ?_ GE114.out | refine below_set ?_ GE115.out) | exact HB.out)⟩
        ·rw [if_neg c31] at H
         exact absurd H (by simp)
       ·rw [if_neg c30] at H
        exact absurd H (by simp)
      ·rw [if_neg c29] at H
       have c29b0 : decide (x5_2 < (l0_0.length : Int)) = false := decide_eq_false c29
       clear c29
       by_cases c39 : a0_1 = true
       ·subst c39
        have H1 : ((spec_Version_part.f l0_0 true a0_2 a0_3 2).bind fun t121 => (some (a1_7 == t121))) = some r := by rw [if_pos rfl] at H; exact H
        clear H
        have H := H1
        clear H1
        replace H := Option.bind_eq_some_iff.mp H
        obtain ⟨t121, A400, H⟩ := H
        replace H : (some (a1_7 == t121)) = some r := H
        have A40 := Aside0.mk A400
        clear A400
        obtain rfl := Option.some.inj H
        have hnb41 := NB114_115.out
        have hnc41 := NB115_114.out
        have hcz42_0 : wr.cell? ⟨gb114, 0, none⟩ = some (.slice A0_0 l0_0.length c0_0) := (blk_cell BK114.out 0).trans rfl
        have hcz42_1 : wr.cell? ⟨gb114, 1, none⟩ = some (.bool true) := (blk_cell BK114.out 1).trans rfl
        have hcz42_2 : wr.cell? ⟨gb114, 2, none⟩ = some (.string a0_2) := (blk_cell BK114.out 2).trans rfl
        have hcz42_3 : wr.cell? ⟨gb114, 3, none⟩ = some (.string a0_3) := (blk_cell BK114.out 3).trans rfl
        have hfz42_0 := blk_frozen BK114.out 0
        have hfz42_1 := blk_frozen BK114.out 1
        have hfz42_2 := blk_frozen BK114.out 2
        have hfz42_3 := blk_frozen BK114.out 3
        try go_wp2
        have n0_ := Aside0.mk (blk_drew BK114.out)
        have n1_ := Aside0.mk (blk_drew BK115.out)
        have n2_ := Aside0.mk (below_drew1 HB.out)
        clear BK114
        clear BK115
        clear HB
        have BK114 := n0_
        have BK115 := n1_
        have HB := n2_
        clear n0_ n1_ n2_
        refine start_ (n := 17) (S := fun w' => w'.cell? ⟨gb114, 0, none⟩ = some (.slice A0_0 l0_0.length c0_0) ∧ w'.cell? ⟨gb114, 1, none⟩ = some (.bool true) ∧ w'.cell? ⟨gb114, 2, none⟩ = some (.string a0_2) ∧ w'.cell? ⟨gb114, 3, none⟩ = some (.string a0_3) ∧ w'.cell? ⟨gb115, 0, none⟩ = some (.bool a1_0) ∧ w'.cell? ⟨gb115, 1, none⟩ = some (.slice A1_1 l1_1.length c1_1) ∧ w'.cell? ⟨gb115, 2, none⟩ = some (.string a1_2) ∧ w'.cell? ⟨gb115, 3, none⟩ = some (.string a1_3) ∧ w'.cell? ⟨gb115, 4, none⟩ = some (.string a1_4) ∧ w'.cell? ⟨gb115, 5, none⟩ = some (.int .u64 a1_5) ∧ w'.cell? ⟨gb115, 6, none⟩ = some (.int .u64 a1_6) ∧ w'.cell? ⟨gb115, 7, none⟩ = some (.int .u64 a1_7)) (ds := []) Qx2_49 (by kernel_rfl) rfl rfl ⟨(blk_cell BK114.out 0).trans rfl, (blk_cell BK114.out 1).trans rfl, (blk_cell BK114.out 2).trans rfl, (blk_cell BK114.out 3).trans rfl, (blk_cell BK115.out 0).trans rfl, (blk_cell BK115.out 1).trans rfl, (blk_cell BK115.out 2).trans rfl, (blk_cell BK115.out 3).trans rfl, (blk_cell BK115.out 4).trans rfl, (blk_cell BK115.out 5).trans rfl, (blk_cell BK115.out 6).trans rfl, (blk_cell BK115.out 7).trans rfl⟩ (fun hHeld => ?_); refine with_tabW spec_SameVer.tab8 spec_SameVer.bits8 (fun HT_ HW_ => ?_)
        generalize wr.drew = w43 at BK114 BK115 HB hHeld ⊢
        refine pure_ (i := 0) (N := some 71) (v := ?_) (a' := ?_) Qx2_50 rfl rfl (any_of HT_.out (by kernel_rfl)) (fun _ _ _ h => h) (Or.inl ⟨by rfl, ?_⟩) ?_ ?_
        rotate_left
        ·intro w'
         go_simp
         with_reducible rfl
        rotate_left
        ·simp only [Act.put, List.setIfInBounds_toArray, List.set_cons_zero, List.set_cons_succ, i64_w, i32_w]
         rfl
        refine take_ (i := 1) (N := some 72) (v := ?_) (a' := ?_) Qx2_51 rfl rfl (take_ofW HT_.out HW_.out (by kernel_rfl)) (fun _ _ _ h => h) (Or.inl ⟨by rfl, ?_⟩) hHeld ?_ ?_
        rotate_left
        ·rintro w' ⟨s0, s1, s2, s3, s4, s5, s6, s7, s8, s9, s10, s11⟩
         go_simp
         with_reducible rfl
        rotate_left
        ·simp only [Act.put, List.setIfInBounds_toArray, List.set_cons_zero, List.set_cons_succ, i64_w, i32_w]
         rfl
        refine pure_ (i := 2) (N := some 73) (v := ?_) (a' := ?_) Qx2_52 rfl rfl (any_of HT_.out (by kernel_rfl)) (fun _ _ _ h => h) (Or.inl ⟨by rfl, ?_⟩) ?_ ?_
        rotate_left
        ·intro w'
         go_simp
         with_reducible rfl
        rotate_left
        ·simp only [Act.put, List.setIfInBounds_toArray, List.set_cons_zero, List.set_cons_succ, i64_w, i32_w]
         rfl
        refine pure_ (i := 3) (N := some 74) (v := ?_) (a' := ?_) Qx2_53 rfl rfl (any_of HT_.out (by kernel_rfl)) (fun _ _ _ h => h) (Or.inl ⟨by rfl, ?_⟩) ?_ ?_
        rotate_left
        ·intro w'
         go_simp
         with_reducible rfl
        rotate_left
        ·simp only [Act.put, List.setIfInBounds_toArray, List.set_cons_zero, List.set_cons_succ, i64_w, i32_w]
         rfl
        refine pure_ (i := 4) (N := some 75) (v := undef) (a' := ?_) Qx2_54 rfl rfl (any_of HT_.out (by kernel_rfl)) (fun _ _ _ h => h) (Or.inr ⟨by rfl, rfl⟩) ?_ ?_
        rotate_left
        ·simp only [Act.put, List.setIfInBounds_toArray, List.set_cons_zero, List.set_cons_succ, i64_w, i32_w]
         rfl
        refine pure_ (i := 5) (N := some 76) (v := undef) (a' := ?_) Qx2_55 rfl rfl (any_of HT_.out (by kernel_rfl)) (fun _ _ _ h => h) (Or.inr ⟨by rfl, rfl⟩) ?_ ?_
        rotate_left
        ·simp only [Act.put, List.setIfInBounds_toArray, List.set_cons_zero, List.set_cons_succ, i64_w, i32_w]
         rfl
        refine pure_ (i := 6) (N := some 77) (v := undef) (a' := ?_) Qx2_56 rfl rfl (any_of HT_.out (by kernel_rfl)) (fun _ _ _ h => h) (Or.inr ⟨by rfl, rfl⟩) ?_ ?_
        rotate_left
        ·simp only [Act.put, List.setIfInBounds_toArray, List.set_cons_zero, List.set_cons_succ, i64_w, i32_w]
         rfl
        refine pure_ (i := 7) (N := some 78) (v := undef) (a' := ?_) Qx2_57 rfl rfl (any_of HT_.out (by kernel_rfl)) (fun _ _ _ h => h) (Or.inr ⟨by rfl, rfl⟩) ?_ ?_
        rotate_left
        ·simp only [Act.put, List.setIfInBounds_toArray, List.set_cons_zero, List.set_cons_succ, i64_w, i32_w]
         rfl
        refine pure_ (i := 8) (N := some 79) (v := ?_) (a' := ?_) Qx2_58 rfl rfl (any_of HT_.out (by kernel_rfl)) (fun _ _ _ h => h) (Or.inl ⟨by rfl, ?_⟩) ?_ ?_
        rotate_left
        ·intro w'
         go_simp
         with_reducible rfl
        rotate_left
        ·simp only [Act.put, List.setIfInBounds_toArray, List.set_cons_zero, List.set_cons_succ, i64_w, i32_w]
         rfl
        refine pure_ (i := 9) (N := some 80) (v := ?_) (a' := ?_) Qx2_59 rfl rfl (any_of HT_.out (by kernel_rfl)) (fun _ _ _ h => h) (Or.inl ⟨by rfl, ?_⟩) ?_ ?_
        rotate_left
        ·intro w'
         go_simp
         with_reducible rfl
        rotate_left
        ·simp only [Act.put, List.setIfInBounds_toArray, List.set_cons_zero, List.set_cons_succ, i64_w, i32_w]
         rfl
        refine pure_ (i := 10) (N := some 81) (v := ?_) (a' := ?_) Qx2_60 rfl rfl (any_of HT_.out (by kernel_rfl)) (fun _ _ _ h => h) (Or.inl ⟨by rfl, ?_⟩) ?_ ?_
        rotate_left
        ·intro w'
         go_simp
         with_reducible rfl
        rotate_left
        ·simp only [Act.put, List.setIfInBounds_toArray, List.set_cons_zero, List.set_cons_succ, i64_w, i32_w]
         rfl
        refine take_ (i := 11) (N := some 82) (v := ?_) (a' := ?_) Qx2_61 rfl rfl (take_ofW HT_.out HW_.out (by kernel_rfl)) (fun _ _ _ h => h) (Or.inl ⟨by rfl, ?_⟩) hHeld ?_ ?_
        rotate_left
        ·rintro w' ⟨s0, s1, s2, s3, s4, s5, s6, s7, s8, s9, s10, s11⟩
         go_simp
         with_reducible rfl
        rotate_left
        ·simp only [Act.put, List.setIfInBounds_toArray, List.set_cons_zero, List.set_cons_succ, i64_w, i32_w]
         rfl
        refine take_ (i := 12) (N := some 83) (v := ?_) (a' := ?_) Qx2_62 rfl rfl (take_ofW HT_.out HW_.out (by kernel_rfl)) (fun _ _ _ h => h) (Or.inl ⟨by rfl, ?_⟩) hHeld ?_ ?_
        rotate_left
        ·rintro w' ⟨s0, s1, s2, s3, s4, s5, s6, s7, s8, s9, s10, s11⟩
         go_simp
         with_reducible rfl
        rotate_left
        ·simp only [Act.put, List.setIfInBounds_toArray, List.set_cons_zero, List.set_cons_succ, i64_w, i32_w]
         rfl
        refine one_ (i := 13) (N := some 84) Qx2_63 rfl rfl (one_of HT_.out (by kernel_rfl)) (by decide) (fun K hK => ?_)
        refine goes_ Tryd.func31 (by kernel_rfl) rfl #[.agg #[.slice A0_0 l0_0.length c0_0, .bool true, .string a0_2, .string a0_3], .int .i64 2] (by rfl) rfl rfl (by (try simp only [List.map_toArray, List.map_cons, List.map_nil]); first | done | rfl | (simp only [List.length_drop, List.length_take]; rfl)) ?_
        with_reducible refine (spec_Version_part.calls _ _ l0_0 true a0_2 a0_3 2 t121 _ ?side1 ?side2 A40.out).mono ?_
        (case side1 => repeat (first | exact (Kd.C_below HR0_0.out HB.out) | (with_reducible refine Kd.C_alloc ?_ _) | (with_reducible refine Kd.C_drewN ?_ _) | (with_reducible refine Kd.C_drew ?_)))
        (case side2 => exact HC0_0.out)
        rintro e w44 ⟨rfl, hb⟩
        refine ⟨_, rfl, ?_⟩
        have n0_ := Aside0.mk (blk_below (g := gb114) (o := .cells #[.slice A0_0 l0_0.length c0_0, .bool true, .string a0_2, .string a0_3] 25 (0, 0)) (by (with_reducible repeat (first | refine blk_drewN ?_ _ | refine blk_drew ?_ | refine blk_alloc ?_ _)); exact BK114.out) hb)
        have n1_ := Aside0.mk (blk_below (g := gb115) (o := .cells #[.bool a1_0, .slice A1_1 l1_1.length c1_1, .string a1_2, .string a1_3, .string a1_4, .int .u64 a1_5, .int .u64 a1_6, .int .u64 a1_7] 46 (0, 0)) (by (with_reducible repeat (first | refine blk_drewN ?_ _ | refine blk_drew ?_ | refine blk_alloc ?_ _)); exact BK115.out) hb)
        have n2_ := Aside0.mk (below_step (by repeat (first | (with_reducible first | exact HB.out | apply below_alloc | apply pw_below_drewN | apply below_drew1 | refine below_set ?_ GE114.out | refine below_set ?_ GE115.out) | exact HB.out)) hb)
        clear BK114
        clear BK115
        clear HB
        have BK114 := n0_
        have BK115 := n1_
        have HB := n2_
        clear n0_ n1_ n2_
        (try clear hb)
        (try clear hb2)
        (try clear hk)
        (try clear hi)
        refine hK.out _ _ ⟨(blk_cell BK114.out 0).trans rfl, (blk_cell BK114.out 1).trans rfl, (blk_cell BK114.out 2).trans rfl, (blk_cell BK114.out 3).trans rfl, (blk_cell BK115.out 0).trans rfl, (blk_cell BK115.out 1).trans rfl, (blk_cell BK115.out 2).trans rfl, (blk_cell BK115.out 3).trans rfl, (blk_cell BK115.out 4).trans rfl, (blk_cell BK115.out 5).trans rfl, (blk_cell BK115.out 6).trans rfl, (blk_cell BK115.out 7).trans rfl⟩ (fun hHeld => ?_)
        clear hK K
        refine norm_ (a' := ?_) ?_ ?_
        rotate_left
        ·show Act.put _ (some 84) _ = _
         simp only [Act.put, List.setIfInBounds_toArray, List.set_cons_zero, List.set_cons_succ, i64_w, i32_w]
         rfl
        refine pure_ (i := 14) (N := some 85) (v := ?_) (a' := ?_) Qx2_64 rfl rfl (any_of HT_.out (by kernel_rfl)) (fun _ _ _ h => h) (Or.inl ⟨by rfl, ?_⟩) ?_ ?_
        rotate_left
        ·intro w'
         go_simp
         with_reducible rfl
        rotate_left
        ·simp only [Act.put, List.setIfInBounds_toArray, List.set_cons_zero, List.set_cons_succ, i64_w, i32_w]
         rfl
        refine pure_ (i := 15) (N := some 86) (v := ?_) (a' := ?_) Qx2_65 rfl rfl (any_of HT_.out (by kernel_rfl)) (fun _ _ _ h => h) (Or.inl ⟨by rfl, ?_⟩) ?_ ?_
        rotate_left
        ·intro w'
         go_simp
         with_reducible rfl
        rotate_left
        ·simp only [Act.put, List.setIfInBounds_toArray, List.set_cons_zero, List.set_cons_succ, i64_w, i32_w]
         rfl
        refine pure_ (i := 16) (N := some 4) (v := ?_) (a' := ?_) Qx2_66 rfl rfl (any_of HT_.out (by kernel_rfl)) (fun _ _ _ h => h) (Or.inl ⟨by rfl, ?_⟩) ?_ ?_
        rotate_left
        ·intro w'
         go_simp
         with_reducible rfl
        rotate_left
        ·simp only [Act.put, List.setIfInBounds_toArray, List.set_cons_zero, List.set_cons_succ, i64_w, i32_w]
         rfl
        refine done_ (done_of HT_.out (by kernel_rfl)) ?_
        try go_wp2
        go_ret
        exact ⟨by first | rfl | (simp [errW_none, errW_some] <;> rfl) | (simp [*, errW_none, errW_some] <;> rfl), by repeat (first | (with_reducible first | exact HB.out | apply below_alloc | apply pw_below_drewN | apply below_drew1 | refine below_set ?_ GE114.out | refine below_set ?_ GE115.out) | exact HB.out)⟩
       ·replace c39 := Bool.eq_false_iff.mpr c39
        subst c39
        have H1 : (if (l0_0.length : Int) > 2 then (some true) else ((spec_Version_part.f l0_0 false a0_2 a0_3 2).bind fun t122 => (some (a1_7 == t122)))) = some r := by rw [if_neg (show ¬ (false = true) by decide)] at H; exact H
        clear H
        have H := H1
        clear H1
        by_cases c45 : (l0_0.length : Int) > 2
        ·rw [if_pos c45] at H
         have c45b0 : decide (2 < (l0_0.length : Int)) = true := decide_eq_true c45
         have c45b1 : decide (2 < l0_0.length) = true := decide_eq_true (by omega)
         clear c45
         obtain rfl := Option.some.inj H
         have hnb46 := NB114_115.out
         have hnc46 := NB115_114.out
         have hcz47_0 : wr.cell? ⟨gb114, 0, none⟩ = some (.slice A0_0 l0_0.length c0_0) := (blk_cell BK114.out 0).trans rfl
         have hcz47_1 : wr.cell? ⟨gb114, 1, none⟩ = some (.bool false) := (blk_cell BK114.out 1).trans rfl
         have hcz47_2 : wr.cell? ⟨gb114, 2, none⟩ = some (.string a0_2) := (blk_cell BK114.out 2).trans rfl
         have hcz47_3 : wr.cell? ⟨gb114, 3, none⟩ = some (.string a0_3) := (blk_cell BK114.out 3).trans rfl
         have hfz47_0 := blk_frozen BK114.out 0
         have hfz47_1 := blk_frozen BK114.out 1
         have hfz47_2 := blk_frozen BK114.out 2
         have hfz47_3 := blk_frozen BK114.out 3
         try go_wp2
         have n0_ := Aside0.mk (blk_drew BK114.out)
         have n1_ := Aside0.mk (blk_drew BK115.out)
         have n2_ := Aside0.mk (below_drew1 HB.out)
         clear BK114
         clear BK115
         clear HB
         have BK114 := n0_
         have BK115 := n1_
         have HB := n2_
         clear n0_ n1_ n2_
         refine start_ (n := 17) (S := fun w' => w'.cell? ⟨gb114, 0, none⟩ = some (.slice A0_0 l0_0.length c0_0) ∧ w'.cell? ⟨gb114, 1, none⟩ = some (.bool false) ∧ w'.cell? ⟨gb114, 2, none⟩ = some (.string a0_2) ∧ w'.cell? ⟨gb114, 3, none⟩ = some (.string a0_3)) (ds := []) Qx2_49 (by kernel_rfl) rfl rfl ⟨(blk_cell BK114.out 0).trans rfl, (blk_cell BK114.out 1).trans rfl, (blk_cell BK114.out 2).trans rfl, (blk_cell BK114.out 3).trans rfl⟩ (fun hHeld => ?_); refine with_tabW spec_SameVer.tab8 spec_SameVer.bits8 (fun HT_ HW_ => ?_)
         generalize wr.drew = w48 at BK114 BK115 HB hHeld ⊢
         refine pure_ (i := 0) (N := some 71) (v := ?_) (a' := ?_) Qx2_50 rfl rfl (any_of HT_.out (by kernel_rfl)) (fun _ _ _ h => h) (Or.inl ⟨by rfl, ?_⟩) ?_ ?_
         rotate_left
         ·intro w'
          go_simp
          with_reducible rfl
         rotate_left
         ·simp only [Act.put, List.setIfInBounds_toArray, List.set_cons_zero, List.set_cons_succ, i64_w, i32_w]
          rfl
         refine take_ (i := 1) (N := some 72) (v := ?_) (a' := ?_) Qx2_51 rfl rfl (take_ofW HT_.out HW_.out (by kernel_rfl)) (fun _ _ _ h => h) (Or.inl ⟨by rfl, ?_⟩) hHeld ?_ ?_
         rotate_left
         ·rintro w' ⟨s0, s1, s2, s3⟩
          go_simp
          with_reducible rfl
         rotate_left
         ·simp only [Act.put, List.setIfInBounds_toArray, List.set_cons_zero, List.set_cons_succ, i64_w, i32_w]
          rfl
         refine pure_ (i := 2) (N := some 73) (v := ?_) (a' := ?_) Qx2_52 rfl rfl (any_of HT_.out (by kernel_rfl)) (fun _ _ _ h => h) (Or.inl ⟨by rfl, ?_⟩) ?_ ?_
         rotate_left
         ·intro w'
          go_simp
          with_reducible rfl
         rotate_left
         ·simp only [Act.put, List.setIfInBounds_toArray, List.set_cons_zero, List.set_cons_succ, i64_w, i32_w]
          rfl
         refine pure_ (i := 3) (N := some 74) (v := ?_) (a' := ?_) Qx2_53 rfl rfl (any_of HT_.out (by kernel_rfl)) (fun _ _ _ h => h) (Or.inl ⟨by rfl, ?_⟩) ?_ ?_
         rotate_left
         ·intro w'
          go_simp
          with_reducible rfl
         rotate_left
         ·simp only [Act.put, List.setIfInBounds_toArray, List.set_cons_zero, List.set_cons_succ, i64_w, i32_w]
          rfl
         refine pure_ (i := 4) (N := some 75) (v := ?_) (a' := ?_) Qx2_54 rfl rfl (any_of HT_.out (by kernel_rfl)) (fun _ _ _ h => h) (Or.inl ⟨by rfl, ?_⟩) ?_ ?_
         rotate_left
         ·intro w'
          go_simp
          with_reducible rfl
         rotate_left
         ·simp only [Act.put, List.setIfInBounds_toArray, List.set_cons_zero, List.set_cons_succ, i64_w, i32_w]
          rfl
         refine take_ (i := 5) (N := some 76) (v := ?_) (a' := ?_) Qx2_55 rfl rfl (take_ofW HT_.out HW_.out (by kernel_rfl)) (fun _ _ _ h => h) (Or.inl ⟨by rfl, ?_⟩) hHeld ?_ ?_
         rotate_left
         ·rintro w' ⟨s0, s1, s2, s3⟩
          go_simp
          with_reducible rfl
         rotate_left
         ·simp only [Act.put, List.setIfInBounds_toArray, List.set_cons_zero, List.set_cons_succ, i64_w, i32_w]
          rfl
         refine pure_ (i := 6) (N := some 77) (v := ?_) (a' := ?_) Qx2_56 rfl rfl (any_of HT_.out (by kernel_rfl)) (fun _ _ _ h => h) (Or.inl ⟨by rfl, ?_⟩) ?_ ?_
         rotate_left
         ·intro w'
          go_simp
          with_reducible rfl
         rotate_left
         ·simp only [Act.put, List.setIfInBounds_toArray, List.set_cons_zero, List.set_cons_succ, i64_w, i32_w]
          rfl
         refine pure_ (i := 7) (N := some 78) (v := ?_) (a' := ?_) Qx2_57 rfl rfl (any_of HT_.out (by kernel_rfl)) (fun _ _ _ h => h) (Or.inl ⟨by rfl, ?_⟩) ?_ ?_
         rotate_left
         ·intro w'
          go_simp
          with_reducible rfl
         rotate_left
         ·simp only [Act.put, List.setIfInBounds_toArray, List.set_cons_zero, List.set_cons_succ, i64_w, i32_w]
          rfl
         refine pure_ (i := 8) (N := some 79) (v := ?_) (a' := ?_) Qx2_58 rfl rfl (any_of HT_.out (by kernel_rfl)) (fun _ _ _ h => h) (Or.inl ⟨by rfl, ?_⟩) ?_ ?_
         rotate_left
         ·intro w'
          go_simp
          with_reducible rfl
         rotate_left
         ·simp only [Act.put, List.setIfInBounds_toArray, List.set_cons_zero, List.set_cons_succ, i64_w, i32_w]
          rfl
         refine pure_ (i := 9) (N := some 80) (v := ?_) (a' := ?_) Qx2_59 rfl rfl (any_of HT_.out (by kernel_rfl)) (fun _ _ _ h => h) (Or.inl ⟨by rfl, ?_⟩) ?_ ?_
         rotate_left
         ·intro w'
          go_simp
          with_reducible rfl
         rotate_left
         ·simp only [Act.put, List.setIfInBounds_toArray, List.set_cons_zero, List.set_cons_succ, i64_w, i32_w]
          rfl
         refine pure_ (i := 10) (N := some 81) (v := undef) (a' := ?_) Qx2_60 rfl rfl (any_of HT_.out (by kernel_rfl)) (fun _ _ _ h => h) (Or.inr ⟨by rfl, rfl⟩) ?_ ?_
         rotate_left
         ·simp only [Act.put, List.setIfInBounds_toArray, List.set_cons_zero, List.set_cons_succ, i64_w, i32_w]
          rfl
         refine pure_ (i := 11) (N := some 82) (v := undef) (a' := ?_) Qx2_61 rfl rfl (any_of HT_.out (by kernel_rfl)) (fun _ _ _ h => h) (Or.inr ⟨by rfl, rfl⟩) ?_ ?_
         rotate_left
         ·simp only [Act.put, List.setIfInBounds_toArray, List.set_cons_zero, List.set_cons_succ, i64_w, i32_w]
          rfl
         refine pure_ (i := 12) (N := some 83) (v := undef) (a' := ?_) Qx2_62 rfl rfl (any_of HT_.out (by kernel_rfl)) (fun _ _ _ h => h) (Or.inr ⟨by rfl, rfl⟩) ?_ ?_
         rotate_left
         ·simp only [Act.put, List.setIfInBounds_toArray, List.set_cons_zero, List.set_cons_succ, i64_w, i32_w]
          rfl
         refine pure_ (i := 13) (N := some 84) (v := undef) (a' := ?_) Qx2_63 rfl rfl (any_of HT_.out (by kernel_rfl)) (fun _ _ _ h => h) (Or.inr ⟨by rfl, rfl⟩) ?_ ?_
         rotate_left
         ·simp only [Act.put, List.setIfInBounds_toArray, List.set_cons_zero, List.set_cons_succ, i64_w, i32_w]
          rfl
         refine pure_ (i := 14) (N := some 85) (v := undef) (a' := ?_) Qx2_64 rfl rfl (any_of HT_.out (by kernel_rfl)) (fun _ _ _ h => h) (Or.inr ⟨by rfl, rfl⟩) ?_ ?_
         rotate_left
         ·simp only [Act.put, List.setIfInBounds_toArray, List.set_cons_zero, List.set_cons_succ, i64_w, i32_w]
          rfl
         refine pure_ (i := 15) (N := some 86) (v := ?_) (a' := ?_) Qx2_65 rfl rfl (any_of HT_.out (by kernel_rfl)) (fun _ _ _ h => h) (Or.inl ⟨by rfl, ?_⟩) ?_ ?_
         rotate_left
         ·intro w'
          go_simp
          with_reducible rfl
         rotate_left
         ·simp only [Act.put, List.setIfInBounds_toArray, List.set_cons_zero, List.set_cons_succ, i64_w, i32_w]
          rfl
         refine pure_ (i := 16) (N := some 4) (v := ?_) (a' := ?_) Qx2_66 rfl rfl (any_of HT_.out (by kernel_rfl)) (fun _ _ _ h => h) (Or.inl ⟨by rfl, ?_⟩) ?_ ?_
         rotate_left
         ·intro w'
          go_simp
          with_reducible rfl
         rotate_left
         ·simp only [Act.put, List.setIfInBounds_toArray, List.set_cons_zero, List.set_cons_succ, i64_w, i32_w]
          rfl
         refine done_ (done_of HT_.out (by kernel_rfl)) ?_
         try go_wp2
         go_ret
         exact ⟨by first | rfl | (simp [errW_none, errW_some] <;> rfl) | (simp [*, errW_none, errW_some] <;> rfl), by repeat (first | (with_reducible first | exact HB.out | apply below_alloc | apply pw_below_drewN | apply below_drew1 | refine below_set ?_ GE114.out | refine below_set ?_ GE115.out) | exact HB.out)⟩
        ·rw [if_neg c45] at H
         have c45b0 : decide (2 < (l0_0.length : Int)) = false := decide_eq_false c45
         have c45b1 : decide (2 < l0_0.length) = false := decide_eq_false (by omega)
         clear c45
         replace H := Option.bind_eq_some_iff.mp H
         obtain ⟨t122, A490, H⟩ := H
         replace H : (some (a1_7 == t122)) = some r := H
         have A49 := Aside0.mk A490
         clear A490
         obtain rfl := Option.some.inj H
         have hnb50 := NB114_115.out
         have hnc50 := NB115_114.out
         have hcz51_0 : wr.cell? ⟨gb114, 0, none⟩ = some (.slice A0_0 l0_0.length c0_0) := (blk_cell BK114.out 0).trans rfl
         have hcz51_1 : wr.cell? ⟨gb114, 1, none⟩ = some (.bool false) := (blk_cell BK114.out 1).trans rfl
         have hcz51_2 : wr.cell? ⟨gb114, 2, none⟩ = some (.string a0_2) := (blk_cell BK114.out 2).trans rfl
         have hcz51_3 : wr.cell? ⟨gb114, 3, none⟩ = some (.string a0_3) := (blk_cell BK114.out 3).trans rfl
         have hfz51_0 := blk_frozen BK114.out 0
         have hfz51_1 := blk_frozen BK114.out 1
         have hfz51_2 := blk_frozen BK114.out 2
         have hfz51_3 := blk_frozen BK114.out 3
         try go_wp2
         have n0_ := Aside0.mk (blk_drew BK114.out)
         have n1_ := Aside0.mk (blk_drew BK115.out)
         have n2_ := Aside0.mk (below_drew1 HB.out)
         clear BK114
         clear BK115
         clear HB
         have BK114 := n0_
         have BK115 := n1_
         have HB := n2_
         clear n0_ n1_ n2_
         refine start_ (n := 17) (S := fun w' => w'.cell? ⟨gb114, 0, none⟩ = some (.slice A0_0 l0_0.length c0_0) ∧ w'.cell? ⟨gb114, 1, none⟩ = some (.bool false) ∧ w'.cell? ⟨gb114, 2, none⟩ = some (.string a0_2) ∧ w'.cell? ⟨gb114, 3, none⟩ = some (.string a0_3) ∧ w'.cell? ⟨gb115, 0, none⟩ = some (.bool a1_0) ∧ w'.cell? ⟨gb115, 1, none⟩ = some (.slice A1_1 l1_1.length c1_1) ∧ w'.cell? ⟨gb115, 2, none⟩ = some (.string a1_2) ∧ w'.cell? ⟨gb115, 3, none⟩ = some (.string a1_3) ∧ w'.cell? ⟨gb115, 4, none⟩ = some (.string a1_4) ∧ w'.cell? ⟨gb115, 5, none⟩ = some (.int .u64 a1_5) ∧ w'.cell? ⟨gb115, 6, none⟩ = some (.int .u64 a1_6) ∧ w'.cell? ⟨gb115, 7, none⟩ = some (.int .u64 a1_7)) (ds := []) Qx2_49 (by kernel_rfl) rfl rfl ⟨(blk_cell BK114.out 0).trans rfl, (blk_cell BK114.out 1).trans rfl, (blk_cell BK114.out 2).trans rfl, (blk_cell BK114.out 3).trans rfl, (blk_cell BK115.out 0).trans rfl, (blk_cell BK115.out 1).trans rfl, (blk_cell BK115.out 2).trans rfl, (blk_cell BK115.out 3).trans rfl, (blk_cell BK115.out 4).trans rfl, (blk_cell BK115.out 5).trans rfl, (blk_cell BK115.out 6).trans rfl, (blk_cell BK115.out 7).trans rfl⟩ (fun hHeld => ?_); refine with_tabW spec_SameVer.tab8 spec_SameVer.bits8 (fun HT_ HW_ => ?_)
         generalize wr.drew = w52 at BK114 BK115 HB hHeld ⊢
         refine pure_ (i := 0) (N := some 71) (v := ?_) (a' := ?_) Qx2_50 rfl rfl (any_of HT_.out (by kernel_rfl)) (fun _ _ _ h => h) (Or.inl ⟨by rfl, ?_⟩) ?_ ?_
         rotate_left
         ·intro w'
          go_simp
          with_reducible rfl
         rotate_left
         ·simp only [Act.put, List.setIfInBounds_toArray, List.set_cons_zero, List.set_cons_succ, i64_w, i32_w]
          rfl
         refine take_ (i := 1) (N := some 72) (v := ?_) (a' := ?_) Qx2_51 rfl rfl (take_ofW HT_.out HW_.out (by kernel_rfl)) (fun _ _ _ h => h) (Or.inl ⟨by rfl, ?_⟩) hHeld ?_ ?_
         rotate_left
         ·rintro w' ⟨s0, s1, s2, s3, s4, s5, s6, s7, s8, s9, s10, s11⟩
          go_simp
          with_reducible rfl
         rotate_left
         ·simp only [Act.put, List.setIfInBounds_toArray, List.set_cons_zero, List.set_cons_succ, i64_w, i32_w]
          rfl
         refine pure_ (i := 2) (N := some 73) (v := ?_) (a' := ?_) Qx2_52 rfl rfl (any_of HT_.out (by kernel_rfl)) (fun _ _ _ h => h) (Or.inl ⟨by rfl, ?_⟩) ?_ ?_
         rotate_left
         ·intro w'
          go_simp
          with_reducible rfl
         rotate_left
         ·simp only [Act.put, List.setIfInBounds_toArray, List.set_cons_zero, List.set_cons_succ, i64_w, i32_w]
          rfl
         refine pure_ (i := 3) (N := some 74) (v := ?_) (a' := ?_) Qx2_53 rfl rfl (any_of HT_.out (by kernel_rfl)) (fun _ _ _ h => h) (Or.inl ⟨by rfl, ?_⟩) ?_ ?_
         rotate_left
         ·intro w'
          go_simp
          with_reducible rfl
         rotate_left
         ·simp only [Act.put, List.setIfInBounds_toArray, List.set_cons_zero, List.set_cons_succ, i64_w, i32_w]
          rfl
         refine pure_ (i := 4) (N := some 75) (v := ?_) (a' := ?_) Qx2_54 rfl rfl (any_of HT_.out (by kernel_rfl)) (fun _ _ _ h => h) (Or.inl ⟨by rfl, ?_⟩) ?_ ?_
         rotate_left
         ·intro w'
          go_simp
          with_reducible rfl
         rotate_left
         ·simp only [Act.put, List.setIfInBounds_toArray, List.set_cons_zero, List.set_cons_succ, i64_w, i32_w]
          rfl
         refine take_ (i := 5) (N := some 76) (v := ?_) (a' := ?_) Qx2_55 rfl rfl (take_ofW HT_.out HW_.out (by kernel_rfl)) (fun _ _ _ h => h) (Or.inl ⟨by rfl, ?_⟩) hHeld ?_ ?_
         rotate_left
         ·rintro w' ⟨s0, s1, s2, s3, s4, s5, s6, s7, s8, s9, s10, s11⟩
          go_simp
          with_reducible rfl
         rotate_left
         ·simp only [Act.put, List.setIfInBounds_toArray, List.set_cons_zero, List.set_cons_succ, i64_w, i32_w]
          rfl
         refine pure_ (i := 6) (N := some 77) (v := ?_) (a' := ?_) Qx2_56 rfl rfl (any_of HT_.out (by kernel_rfl)) (fun _ _ _ h => h) (Or.inl ⟨by rfl, ?_⟩) ?_ ?_
         rotate_left
         ·intro w'
          go_simp
          with_reducible rfl
         rotate_left
         ·simp only [Act.put, List.setIfInBounds_toArray, List.set_cons_zero, List.set_cons_succ, i64_w, i32_w]
          rfl
         refine pure_ (i := 7) (N := some 78) (v := ?_) (a' := ?_) Qx2_57 rfl rfl (any_of HT_.out (by kernel_rfl)) (fun _ _ _ h => h) (Or.inl ⟨by rfl, ?_⟩) ?_ ?_
         rotate_left
         ·intro w'
          go_simp
          with_reducible rfl
         rotate_left
         ·simp only [Act.put, List.setIfInBounds_toArray, List.set_cons_zero, List.set_cons_succ, i64_w, i32_w]
          rfl
         refine pure_ (i := 8) (N := some 79) (v := ?_) (a' := ?_) Qx2_58 rfl rfl (any_of HT_.out (by kernel_rfl)) (fun _ _ _ h => h) (Or.inl ⟨by rfl, ?_⟩) ?_ ?_
         rotate_left
         ·intro w'
          go_simp
          with_reducible rfl
         rotate_left
         ·simp only [Act.put, List.setIfInBounds_toArray, List.set_cons_zero, List.set_cons_succ, i64_w, i32_w]
          rfl
         refine pure_ (i := 9) (N := some 80) (v := ?_) (a' := ?_) Qx2_59 rfl rfl (any_of HT_.out (by kernel_rfl)) (fun _ _ _ h => h) (Or.inl ⟨by rfl, ?_⟩) ?_ ?_
         rotate_left
         ·intro w'
          go_simp
          with_reducible rfl
         rotate_left
         ·simp only [Act.put, List.setIfInBounds_toArray, List.set_cons_zero, List.set_cons_succ, i64_w, i32_w]
          rfl
         refine pure_ (i := 10) (N := some 81) (v := ?_) (a' := ?_) Qx2_60 rfl rfl (any_of HT_.out (by kernel_rfl)) (fun _ _ _ h => h) (Or.inl ⟨by rfl, ?_⟩) ?_ ?_
         rotate_left
         ·intro w'
          go_simp
          with_reducible rfl
         rotate_left
         ·simp only [Act.put, List.setIfInBounds_toArray, List.set_cons_zero, List.set_cons_succ, i64_w, i32_w]
          rfl
         refine take_ (i := 11) (N := some 82) (v := ?_) (a' := ?_) Qx2_61 rfl rfl (take_ofW HT_.out HW_.out (by kernel_rfl)) (fun _ _ _ h => h) (Or.inl ⟨by rfl, ?_⟩) hHeld ?_ ?_
         rotate_left
         ·rintro w' ⟨s0, s1, s2, s3, s4, s5, s6, s7, s8, s9, s10, s11⟩
          go_simp
          with_reducible rfl
         rotate_left
         ·simp only [Act.put, List.setIfInBounds_toArray, List.set_cons_zero, List.set_cons_succ, i64_w, i32_w]
          rfl
         refine take_ (i := 12) (N := some 83) (v := ?_) (a' := ?_) Qx2_62 rfl rfl (take_ofW HT_.out HW_.out (by kernel_rfl)) (fun _ _ _ h => h) (Or.inl ⟨by rfl, ?_⟩) hHeld ?_ ?_
         rotate_left
         ·rintro w' ⟨s0, s1, s2, s3, s4, s5, s6, s7, s8, s9, s10, s11⟩
          go_simp
          with_reducible rfl
         rotate_left
         ·simp only [Act.put, List.setIfInBounds_toArray, List.set_cons_zero, List.set_cons_succ, i64_w, i32_w]
          rfl
         refine one_ (i := 13) (N := some 84) Qx2_63 rfl rfl (one_of HT_.out (by kernel_rfl)) (by decide) (fun K hK => ?_)
         refine goes_ Tryd.func31 (by kernel_rfl) rfl #[.agg #[.slice A0_0 l0_0.length c0_0, .bool false, .string a0_2, .string a0_3], .int .i64 2] (by rfl) rfl rfl (by (try simp only [List.map_toArray, List.map_cons, List.map_nil]); first | done | rfl | (simp only [List.length_drop, List.length_take]; rfl)) ?_
         with_reducible refine (spec_Version_part.calls _ _ l0_0 false a0_2 a0_3 2 t122 _ ?side1 ?side2 A49.out).mono ?_
         (case side1 => repeat (first | exact (Kd.C_below HR0_0.out HB.out) | (with_reducible refine Kd.C_alloc ?_ _) | (with_reducible refine Kd.C_drewN ?_ _) | (with_reducible refine Kd.C_drew ?_)))
         (case side2 => exact HC0_0.out)
         rintro e w53 ⟨rfl, hb⟩
         refine ⟨_, rfl, ?_⟩
         have n0_ := Aside0.mk (blk_below (g := gb114) (o := .cells #[.slice A0_0 l0_0.length c0_0, .bool false, .string a0_2, .string a0_3] 25 (0, 0)) (by (with_reducible repeat (first | refine blk_drewN ?_ _ | refine blk_drew ?_ | refine blk_alloc ?_ _)); exact BK114.out) hb)
         have n1_ := Aside0.mk (blk_below (g := gb115) (o := .cells #[.bool a1_0, .slice A1_1 l1_1.length c1_1, .string a1_2, .string a1_3, .string a1_4, .int .u64 a1_5, .int .u64 a1_6, .int .u64 a1_7] 46 (0, 0)) (by (with_reducible repeat (first | refine blk_drewN ?_ _ | refine blk_drew ?_ | refine blk_alloc ?_ _)); exact BK115.out) hb)
         have n2_ := Aside0.mk (below_step (by repeat (first | (with_reducible first | exact HB.out | apply below_alloc | apply pw_below_drewN | apply below_drew1 | refine below_set ?_ GE114.out | refine below_set ?_ GE115.out) | exact HB.out)) hb)
         clear BK114
         clear BK115
         clear HB
         have BK114 := n0_
         have BK115 := n1_
         have HB := n2_
         clear n0_ n1_ n2_
         (try clear hb)
         (try clear hb2)
         (try clear hk)
         (try clear hi)
         refine hK.out _ _ ⟨(blk_cell BK114.out 0).trans rfl, (blk_cell BK114.out 1).trans rfl, (blk_cell BK114.out 2).trans rfl, (blk_cell BK114.out 3).trans rfl, (blk_cell BK115.out 0).trans rfl, (blk_cell BK115.out 1).trans rfl, (blk_cell BK115.out 2).trans rfl, (blk_cell BK115.out 3).trans rfl, (blk_cell BK115.out 4).trans rfl, (blk_cell BK115.out 5).trans rfl, (blk_cell BK115.out 6).trans rfl, (blk_cell BK115.out 7).trans rfl⟩ (fun hHeld => ?_)
         clear hK K
         refine norm_ (a' := ?_) ?_ ?_
         rotate_left
         ·show Act.put _ (some 84) _ = _
          simp only [Act.put, List.setIfInBounds_toArray, List.set_cons_zero, List.set_cons_succ, i64_w, i32_w]
          rfl
         refine pure_ (i := 14) (N := some 85) (v := ?_) (a' := ?_) Qx2_64 rfl rfl (any_of HT_.out (by kernel_rfl)) (fun _ _ _ h => h) (Or.inl ⟨by rfl, ?_⟩) ?_ ?_
         rotate_left
         ·intro w'
          go_simp
          with_reducible rfl
         rotate_left
         ·simp only [Act.put, List.setIfInBounds_toArray, List.set_cons_zero, List.set_cons_succ, i64_w, i32_w]
          rfl
         refine pure_ (i := 15) (N := some 86) (v := ?_) (a' := ?_) Qx2_65 rfl rfl (any_of HT_.out (by kernel_rfl)) (fun _ _ _ h => h) (Or.inl ⟨by rfl, ?_⟩) ?_ ?_
         rotate_left
         ·intro w'
          go_simp
          with_reducible rfl
         rotate_left
         ·simp only [Act.put, List.setIfInBounds_toArray, List.set_cons_zero, List.set_cons_succ, i64_w, i32_w]
          rfl
         refine pure_ (i := 16) (N := some 4) (v := ?_) (a' := ?_) Qx2_66 rfl rfl (any_of HT_.out (by kernel_rfl)) (fun _ _ _ h => h) (Or.inl ⟨by rfl, ?_⟩) ?_ ?_
         rotate_left
         ·intro w'
          go_simp
          with_reducible rfl
         rotate_left
         ·simp only [Act.put, List.setIfInBounds_toArray, List.set_cons_zero, List.set_cons_succ, i64_w, i32_w]
          rfl
         refine done_ (done_of HT_.out (by kernel_rfl)) ?_
         try go_wp2
         go_ret
         exact ⟨by first | rfl | (simp [errW_none, errW_some] <;> rfl) | (simp [*, errW_none, errW_some] <;> rfl), by repeat (first | (with_reducible first | exact HB.out | apply below_alloc | apply pw_below_drewN | apply below_drew1 | refine below_set ?_ GE114.out | refine below_set ?_ GE115.out) | exact HB.out)⟩
end Go.Proofs.YtmfgkidppchobaaDoor.XFnVersionMinors

