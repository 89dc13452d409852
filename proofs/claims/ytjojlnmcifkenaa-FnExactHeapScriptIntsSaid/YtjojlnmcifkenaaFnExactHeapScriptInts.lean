/-
  FnExactHeapScriptInts returns true for every list of numbers and every script. Condition: the reach of a slice that every statement bears.
-/
import Derived.Test.YtjojlnmcifkenaaSpecJ
import Derived.Test.YtjojlnmcifkenaaExactI
import Derived.Test.YtjojlnmcifkenaaOpenS
namespace Go.Proofs.Ytjojlnmcifkenaa.fnExactHeapScriptInts
open Go.ChangeShapes Go.WideShapes Go.ChangeAt Go.RowKit Go.Shelf Go.Deep Go.Joins
open Hp (g swp Ev St plc)

theorem own_below {w w' : World} {B : Nat} {e : TypeId} {size n : Nat} {v : Value} {xs : List Value} (h : w.ownsRow B e size v n xs) (hb : Below w.heap.size w w') : w'.ownsRow B e size v n xs := own_frm (X := fun _ => False) h (Frm.of_new hb) (fun _ _ e => e)

set_option maxHeartbeats 8000000 in
set_option maxRecDepth 100000 in
theorem walk (w : World) (A : Option Addr) (c : Nat) (x : List Int) (As : Option Addr) (cs : Nat) (ss : List St) (hr : Rd w A (clsN x)) (hn : x.length * 8 ≤ 140737488351232) (hrs : Rd w As (clsT ss)) (hns : ss.length * 32 ≤ 140737488351232) :
    Calls Try.prog 3 #[.slice A x.length c, .slice As ss.length cs] w (Gives w (.bool true)) := by
  have HR := Lib.hid hr
  have HRS := Lib.hid hrs
  have hxl : x.length ≤ 17592186043904 := by omega
  have hsl : ss.length ≤ 4398046510976 := by omega
  clear hr hrs hn hns
  by_cases hbx : 1048576 < x.length
  · go_enter Try.func3, Try.ntmps3
    go_wp2
    go_ret
    exact ⟨rfl, Below.refl _ _⟩
  have hxs : x.length ≤ 1048576 := by omega
  by_cases hbig : 1048576 < ss.length
  · go_enter Try.func3, Try.ntmps3
    go_wp2_with (go_at_call 11; refine (szStepS_big _ As _ cs hbig (by omega)).mono ?_; rintro e w' ⟨rfl, rfl⟩)
    go_ret
    exact ⟨rfl, Below.refl _ _⟩
  have hsm : ss.length ≤ 1048576 := by omega
  go_enter Try.func3, Try.ntmps3
  go_wp2_with fail
  refine (szStepS_small _ As _ cs hsm).mono ?_
  rintro e w' ⟨rfl, rfl⟩
  go_wp2_with fail
  refine (toIntS_any _ A _ c x rfl HR.out (by omega)).mono ?_
  rintro e w1 ⟨A1, c1, rfl, ho1, hb1⟩
  have HO1 := Lib.hid ho1
  have HB1 := Lib.hid hb1
  clear ho1 hb1
  go_wp2_with fail
  refine (toStepS_any _ As _ cs ss rfl (HRS.out.below HB1.out (Nat.le_refl _)) (by omega)).mono ?_
  rintro e w2 ⟨A2, c2, rfl, ho2, hb2⟩
  have HO2 := Lib.hid ho2
  have HB12 := Lib.hid hb2
  have HB2 := Lib.hid (bnext HB1.out hb2)
  clear ho2 hb2 HB1
  go_wp2_with fail
  refine (spec_script_law w2 A1 A2 _ c1 _ c2 x ss rfl rfl ((Rd.of_own HO1.out).below HB12.out (Nat.le_refl _)) (Rd.of_own HO2.out) (by omega)).mono ?_
  rintro e w3 ⟨a, b, A3, c3, A4, c4, ⟨ea, eb⟩, rfl, ho3, ho4, hap, hb3⟩
  have hln2 := outA_length ss (Hp.srt x)
  rw [← ea, ← eb, Hp.length_srt] at hln2
  obtain ⟨hal, hbl⟩ := hln2
  have HEA := Lib.hid ea
  have HEB := Lib.hid eb
  have HO3 := Lib.hid ho3
  have HO4 := Lib.hid ho4
  have HB3 := Lib.hid (bnext HB2.out hb3)
  clear ea eb ho3 ho4 hap hb3 HO1 HO2 HB12 HB2
  go_wp2_with fail
  refine (toIntS_any _ A _ c x rfl (HR.out.below HB3.out (Nat.le_refl _)) (by omega)).mono ?_
  rintro e w5 ⟨A5, c5, rfl, ho5, hb5⟩
  have HO5 := Lib.hid ho5
  have HB35 := Lib.hid hb5
  clear ho5 hb5
  go_wp2_with fail
  refine (toStepS_any _ As _ cs ss rfl (HRS.out.below (bnext HB3.out HB35.out) (Nat.le_refl _)) (by omega)).mono ?_
  rintro e w6 ⟨A6, c6, rfl, ho6, hb6⟩
  have HO6 := Lib.hid ho6
  have HB56 := Lib.hid hb6
  have HB36 := Lib.hid (bnext HB35.out hb6)
  clear ho6 hb6
  go_wp2_with fail
  refine (script_law w6 A5 A6 _ c5 _ c6 x ss rfl rfl ((Rd.of_own HO5.out).below HB56.out (Nat.le_refl _)) (Rd.of_own HO6.out) (by omega)).mono ?_
  rintro e w7 ⟨a', b', A7, c7, A8, c8, ⟨ea, eb⟩, rfl, ho7, ho8, hap, hb7⟩
  obtain rfl : a' = a := by rw [ea, HEA.out]
  obtain rfl : b' = b := by rw [eb, HEB.out]
  have HO7 := Lib.hid ho7
  have HO8 := Lib.hid ho8
  have HAP := Lib.hid hap
  have HB67 := Lib.hid hb7
  have HB37 := Lib.hid (bnext HB36.out hb7)
  clear ea eb ho7 ho8 hap hb7
  go_wp2_with fail
  refine (eqIntS_eq w7 A7 A3 _ _ c7 c3 a' rfl rfl (Rd.of_own HO7.out) ((Rd.of_own HO3.out).below HB37.out (Nat.le_refl _)) (by omega)).mono ?_
  rintro e w8 ⟨rfl, hb8⟩
  have HB78 := Lib.hid hb8
  clear hb8
  go_wp2_with fail
  refine (eqIntS_eq w8 A8 A4 _ _ c8 c4 b' rfl rfl ((Rd.of_own HO8.out).below HB78.out (Nat.le_refl _)) ((Rd.of_own HO4.out).below (bnext HB37.out HB78.out) (Nat.le_refl _)) (by omega)).mono ?_
  rintro e w9 ⟨rfl, hb9⟩
  have HB79 := Lib.hid (bnext HB78.out hb9)
  clear hb9 HB78
  go_wp2_with fail
  refine (toIntS_any w9 A _ c x rfl (HR.out.below (bnext (bnext HB3.out HB37.out) HB79.out) (Nat.le_refl _)) (by omega)).mono ?_
  rintro e w10 ⟨A10, c10, rfl, ho10, hb10⟩
  have HO10 := Lib.hid (Rd.of_own ho10)
  have HB7A := Lib.hid (bnext HB79.out hb10)
  clear ho10 hb10 HB79
  go_wp2_with fail
  refine (eqIntS_eq w10 A5 A10 _ _ c5 c10 x rfl rfl ((Rd.of_own HO5.out).below (bnext (bnext HB56.out HB67.out) HB7A.out) (Nat.le_refl _)) HO10.out (by omega)).mono ?_
  rintro e w11 ⟨rfl, hb11⟩
  have HB7B := Lib.hid (bnext HB7A.out hb11)
  clear hb11 HB7A HO10
  go_wp2_with fail
  refine (toStepS_any w11 As _ cs ss rfl (HRS.out.below (bnext (bnext HB3.out HB37.out) HB7B.out) (Nat.le_refl _)) (by omega)).mono ?_
  rintro e w12 ⟨A12, c12, rfl, ho12, hb12⟩
  have HO12 := Lib.hid (Rd.of_own ho12)
  have HB7C := Lib.hid (bnext HB7B.out hb12)
  clear ho12 hb12 HB7B
  go_wp2_with fail
  refine (eqStepS_eq w12 A6 A12 _ _ c6 c12 ss rfl rfl ((Rd.of_own HO6.out).below (bnext HB67.out HB7C.out) (Nat.le_refl _)) HO12.out (by omega)).mono ?_
  rintro e w13 ⟨rfl, hb13⟩
  have hbd := bnext HB7C.out hb13
  have HO3d := Lib.hid (own_below (own_below HO3.out HB37.out) hbd)
  have HO4d := Lib.hid (own_below (own_below HO4.out HB37.out) hbd)
  have HO5d := Lib.hid (own_below (own_below HO5.out (bnext HB56.out HB67.out)) hbd)
  have HO6d := Lib.hid (own_below (own_below HO6.out HB67.out) hbd)
  have HO7d := Lib.hid (own_below HO7.out hbd)
  have HO8d := Lib.hid (own_below HO8.out hbd)
  have HBD := Lib.hid (bnext (bnext HB3.out HB37.out) hbd)
  have z3 := HB3.out.size
  have z35 := HB35.out.size
  have z56 := HB56.out.size
  have z3d := (bnext HB37.out hbd).size
  have z7d := hbd.size
  have z67 := HB67.out.size
  have lo3 := Lib.hid (fun k hk => (HO3.out.lt k hk).2)
  have lo4 := Lib.hid (fun k hk => (HO4.out.lt k hk).2)
  have lo5 := Lib.hid (fun k hk => HO5.out.lt k hk)
  have lo7 := Lib.hid (fun k hk => (HO7.out.lt k hk).1)
  have lo8 := Lib.hid (fun k hk => (HO8.out.lt k hk).1)
  clear hb13 hbd HB7C HO12
  have hcx := markIntS_any w13 w3.heap.size A5 x.length c5 x 1 rfl HO5d.out (by omega) (by omega)
  rw [show ((1 : Nat) : Int) = 1 from rfl] at hcx
  have HCX := Lib.hid hcx
  obtain ⟨K1, hK1⟩ : ∃ K : Nat, K = 1 + x.length := ⟨_, rfl⟩
  rw [← hK1] at HCX
  have hK1s : K1 ≤ 1048577 := by omega
  clear hcx hK1
  go_wp2_with fail
  refine HCX.out.mono ?_
  rintro e w14 ⟨rfl, ho14, hg14⟩
  have hf14 : Frm (fun i => (Value.slice A5 x.length c5).ownBlock = some i) w13 w14 := Frm.of_grown hg14 (fun _ e => e)
  have HO3e := Lib.hid (own_frm HO3d.out hf14 (fun k hk e => by have h1 := lo3.out k hk; have h2 := (lo5.out k e).1; omega))
  have HO4e := Lib.hid (own_frm HO4d.out hf14 (fun k hk e => by have h1 := lo4.out k hk; have h2 := (lo5.out k e).1; omega))
  have HO6e := Lib.hid (own_frm HO6d.out hf14 (fun k hk e => own_apart HO6d.out HO5d.out (by decide) k hk e))
  have HO7e := Lib.hid (own_frm HO7d.out hf14 (fun k hk e => by have h1 := lo7.out k hk; have h2 := (lo5.out k e).2; omega))
  have HO8e := Lib.hid (own_frm HO8d.out hf14 (fun k hk e => by have h1 := lo8.out k hk; have h2 := (lo5.out k e).2; omega))
  have HBE := Lib.hid (HBD.out.trans (hf14.below HBD.out.size (fun i e => by have := (lo5.out i e).1; omega)))
  have z14 := hf14.size
  clear ho14 hg14 hf14 HO3d HO4d HO5d HO6d HO7d HO8d HCX HBD
  have hcs := markStepS_any w14 w5.heap.size A6 ss.length c6 ss K1 rfl HO6e.out (by omega) (by omega)
  have HCS := Lib.hid hcs
  obtain ⟨K2, hK2⟩ : ∃ K : Nat, K = K1 + 4 * ss.length := ⟨_, rfl⟩
  rw [← hK2] at HCS
  clear hcs hK2
  go_wp2_with fail
  refine HCS.out.mono ?_
  rintro e w15 ⟨rfl, ⟨xs15, ho15⟩, hg15⟩
  have hf15 : Frm (fun i => (Value.slice A6 ss.length c6).ownBlock = some i) w14 w15 := Frm.of_grown hg15 (fun _ e => e)
  have HO3f := Lib.hid (own_frm HO3e.out hf15 (fun k hk e => own_apart HO3e.out HO6e.out (by decide) k hk e))
  have HO4f := Lib.hid (own_frm HO4e.out hf15 (fun k hk e => own_apart HO4e.out HO6e.out (by decide) k hk e))
  have HO7f := Lib.hid (own_frm HO7e.out hf15 (fun k hk e => own_apart HO7e.out HO6e.out (by decide) k hk e))
  have HO8f := Lib.hid (own_frm HO8e.out hf15 (fun k hk e => own_apart HO8e.out HO6e.out (by decide) k hk e))
  have HBF := Lib.hid (HBE.out.trans (hf15.below HBE.out.size (fun i e => by have := (HO6e.out.lt i e).1; omega)))
  have z15 := hf15.size
  have hk15 : decide (((K2 : Nat) : Int) < 0) = false := decide_eq_false (by omega)
  clear ho15 hg15 hf15 HO3e HO4e HO6e HO7e HO8e HCS HBE
  go_wp2_with fail
  refine (eqIntS_eq w15 A7 A3 _ _ c7 c3 a' rfl rfl (Rd.of_own HO7f.out) (Rd.of_own HO3f.out) (by omega)).mono ?_
  rintro e w16 ⟨rfl, hb16⟩
  have HBFG := Lib.hid hb16
  clear hb16
  go_wp2_with fail
  refine (eqIntS_eq w16 A8 A4 _ _ c8 c4 b' rfl rfl ((Rd.of_own HO8f.out).below HBFG.out (Nat.le_refl _)) ((Rd.of_own HO4f.out).below HBFG.out (Nat.le_refl _)) (by omega)).mono ?_
  rintro e w17 ⟨rfl, hb17⟩
  have hbh := bnext HBFG.out hb17
  have HO3h := Lib.hid (own_below HO3f.out hbh)
  have HO4h := Lib.hid (own_below HO4f.out hbh)
  have HO7h := Lib.hid (own_below HO7f.out hbh)
  have HO8h := Lib.hid (own_below HO8f.out hbh)
  have HBH := Lib.hid (bnext HBF.out hbh)
  have z17 := hbh.size
  clear hb17 hbh HBFG HO3f HO4f HO7f HO8f HBF
  have hcm := markIntS_any w17 w6.heap.size A7 a'.length c7 a' 1 rfl HO7h.out (by omega) (by omega)
  rw [show ((1 : Nat) : Int) = 1 from rfl] at hcm
  have HCM := Lib.hid hcm
  obtain ⟨M1, hM1⟩ : ∃ K : Nat, K = 1 + a'.length := ⟨_, rfl⟩
  rw [← hM1] at HCM
  have hM1s : M1 ≤ 3000000 := by omega
  have HM1 := Lib.hid hM1
  clear hcm hM1
  go_wp2_with fail
  refine HCM.out.mono ?_
  rintro e w18 ⟨rfl, ho18, hg18⟩
  have hf18 : Frm (fun i => (Value.slice A7 a'.length c7).ownBlock = some i) w17 w18 := Frm.of_grown hg18 (fun _ e => e)
  have HO3i := Lib.hid (own_frm HO3h.out hf18 (fun k hk e => by have h1 := lo3.out k hk; have h2 := lo7.out k e; omega))
  have HO4i := Lib.hid (own_frm HO4h.out hf18 (fun k hk e => by have h1 := lo4.out k hk; have h2 := lo7.out k e; omega))
  have HO8i := Lib.hid (own_frm HO8h.out hf18 (fun k hk e => HAP.out k e hk))
  have HO7i := Lib.hid ho18
  have HBI := Lib.hid (HBH.out.trans (hf18.below HBH.out.size (fun i e => by have := lo7.out i e; omega)))
  have z18 := hf18.size
  clear ho18 hg18 hf18 HO3h HO4h HO7h HO8h HCM HBH
  have hcm := markIntS_any w18 w6.heap.size A8 b'.length c8 b' M1 rfl HO8i.out (by omega) (by omega)
  have HCM := Lib.hid hcm
  obtain ⟨M2, hM2⟩ : ∃ K : Nat, K = M1 + b'.length := ⟨_, rfl⟩
  rw [← hM2] at HCM
  have HM2 := Lib.hid hM2
  clear hcm hM2
  go_wp2_with fail
  refine HCM.out.mono ?_
  rintro e w19 ⟨rfl, ho19, hg19⟩
  have hf19 : Frm (fun i => (Value.slice A8 b'.length c8).ownBlock = some i) w18 w19 := Frm.of_grown hg19 (fun _ e => e)
  have HO3j := Lib.hid (own_frm HO3i.out hf19 (fun k hk e => by have h1 := lo3.out k hk; have h2 := lo8.out k e; omega))
  have HO4j := Lib.hid (own_frm HO4i.out hf19 (fun k hk e => by have h1 := lo4.out k hk; have h2 := lo8.out k e; omega))
  have HO7j := Lib.hid (own_frm HO7i.out hf19 (fun k hk e => HAP.out k hk e))
  have HO8j := Lib.hid ho19
  have HBJ := Lib.hid (HBI.out.trans (hf19.below HBI.out.size (fun i e => by have := lo8.out i e; omega)))
  clear ho19 hg19 hf19 HO3i HO4i HO7i HO8i HCM HBI
  have hch := heldIntS_any w19 A7 a'.length c7 1 (Rd.of_own HO7j.out) (by omega) (by omega)
  rw [show ((1 : Nat) : Int) = 1 from rfl, ← HM1.out] at hch
  have HCH := Lib.hid hch
  have hm1 : decide (((M1 : Nat) : Int) < 0) = false := decide_eq_false (by omega)
  have hm2 : decide (((M2 : Nat) : Int) < 0) = false := decide_eq_false (by omega)
  clear hch
  go_wp2_with fail
  refine HCH.out.mono ?_
  rintro e w20 ⟨rfl, hb20⟩
  have HBJK := Lib.hid hb20
  have hch := heldIntS_any w20 A8 b'.length c8 M1 ((Rd.of_own HO8j.out).below hb20 (Nat.le_refl _)) (by omega) (by omega)
  rw [← HM2.out] at hch
  have HCH2 := Lib.hid hch
  clear hb20 hch HCH
  go_wp2_with fail
  refine HCH2.out.mono ?_
  rintro e w21 ⟨rfl, hb21⟩
  have HBJL := Lib.hid (bnext HBJK.out hb21)
  clear hb21 HCH2 HBJK
  go_wp2_with fail
  refine (toIntS_any w21 A _ c x rfl (HR.out.below (bnext HBJ.out HBJL.out) (Nat.le_refl _)) (by omega)).mono ?_
  rintro e w22 ⟨A22, c22, rfl, ho22, hb22⟩
  have HO22 := Lib.hid (Rd.of_own ho22)
  have HBJM := Lib.hid (bnext HBJL.out hb22)
  clear ho22 hb22 HBJL
  go_wp2_with fail
  refine (toStepS_any w22 As _ cs ss rfl (HRS.out.below (bnext HBJ.out HBJM.out) (Nat.le_refl _)) (by omega)).mono ?_
  rintro e w23 ⟨A23, c23, rfl, ho23, hb23⟩
  have HO22b := Lib.hid (HO22.out.below hb23 (Nat.le_refl _))
  have HO23 := Lib.hid (Rd.of_own ho23)
  have HBJN := Lib.hid (bnext HBJM.out hb23)
  clear ho23 hb23 HBJM HO22
  go_wp2_with fail
  refine (script_law w23 A22 A23 _ c22 _ c23 x ss rfl rfl HO22b.out HO23.out (by omega)).mono ?_
  rintro e w24 ⟨a2, b2, A24, c24, A25, c25, ⟨ea, eb⟩, rfl, ho24, ho25, hap, hb24⟩
  obtain rfl : a2 = a' := by rw [ea, HEA.out]
  obtain rfl : b2 = b' := by rw [eb, HEB.out]
  have HO24 := Lib.hid (Rd.of_own ho24)
  have HO25 := Lib.hid (Rd.of_own ho25)
  have HBJO := Lib.hid (bnext HBJN.out hb24)
  clear ea eb ho24 ho25 hap hb24 HBJN HO22b HO23
  go_wp2_with fail
  refine (eqIntS_eq w24 A24 A3 _ _ c24 c3 a2 rfl rfl HO24.out ((Rd.of_own HO3j.out).below HBJO.out (Nat.le_refl _)) (by omega)).mono ?_
  rintro e w25 ⟨rfl, hb25⟩
  have HOP := Lib.hid hb25
  clear hb25
  go_wp2_with fail
  refine (eqIntS_eq w25 A25 A4 _ _ c25 c4 b2 rfl rfl (HO25.out.below HOP.out (Nat.le_refl _)) ((Rd.of_own HO4j.out).below (bnext HBJO.out HOP.out) (Nat.le_refl _)) (by omega)).mono ?_
  rintro e w26 ⟨rfl, hb26⟩
  have HBJQ := Lib.hid (bnext (bnext HBJO.out HOP.out) hb26)
  clear hb26 HOP HBJO HO24 HO25
  have hch := heldIntS_any w26 A7 a2.length c7 1 ((Rd.of_own HO7j.out).below HBJQ.out (Nat.le_refl _)) (by omega) (by omega)
  rw [show ((1 : Nat) : Int) = 1 from rfl, ← HM1.out] at hch
  have HCH := Lib.hid hch
  clear hch
  go_wp2_with fail
  refine HCH.out.mono ?_
  rintro e w27 ⟨rfl, hb27⟩
  have HBJR := Lib.hid (bnext HBJQ.out hb27)
  clear hb27 HCH HBJQ
  have hch := heldIntS_any w27 A8 b2.length c8 M1 ((Rd.of_own HO8j.out).below HBJR.out (Nat.le_refl _)) (by omega) (by omega)
  rw [← HM2.out] at hch
  have HCH := Lib.hid hch
  clear hch
  go_wp2_with fail
  refine HCH.out.mono ?_
  rintro e w28 ⟨rfl, hb28⟩
  have HBZ := Lib.hid (bnext (bnext HBJ.out HBJR.out) hb28)
  clear hb28 HCH
  go_wp2
  go_ret
  exact ⟨rfl, HBZ.out⟩

theorem contract (H : Type) (enc : TypeId × Value → H) (W : World) (base : Nat) (args : Array Value) (ds gs : List (DataW H)) (before : List MemPlace)
    (hval : ∀ (j : Nat) t v, Try.f3.params[j]? = some t → args[j]? = some v → Value.okWide Try.prog W .any base t v)
    (hW : DataW.Whole enc Try.prog Try.f3.params.toList Rows.fnExactHeapScriptIntsSpec.vars false W args.toList ds gs before)
    (hsz : (DataW.weightsEach Try.prog (Try.f3.params.toList ++ Rows.fnExactHeapScriptIntsSpec.plain.varTypes Try.prog) (ds ++ gs)).all (· ≤ reachBytes) = true) :
    Calls Try.prog 3 args W fun e W' => ∃ v, e = .returned v ∧ Rows.fnExactHeapScriptIntsSpec.post enc Try.prog Try.f3 false true false false W args v W' := by
  have hW' := hW
  obtain ⟨p, q, hA0, hV, rfl, _, _⟩ := hW
  have hA : DataW.TrodAll enc Try.prog W 0 (fun _ => true) true Try.f3.params.toList args.toList ds p := hA0
  rw [Try.params3] at hA hval hsz
  obtain ⟨v0, v1, d0, d1, p0, p1, rfl, rfl, rfl, h0, h1⟩ := trodAll_two hA
  obtain ⟨rfl, rfl⟩ := trodVars_none hV
  obtain ⟨A0, c0, l0, rfl, hr0, hn0⟩ := open_intsl (hval 0 22 v0 rfl rfl) h0 (fun elems spare he => by
    have := sized_slice hsz (j := 0) (t := 22) (e := 3) rfl (by rw [he]; rfl) Try.underlying22
    rw [bytes_int] at this
    exact this)
  obtain ⟨A1, c1, l1, rfl, hr1, hn1⟩ := open_steps (hval 1 23 v1 rfl rfl) h1 (fun elems spare he => by
    have := sized_slice hsz (j := 1) (t := 23) (e := 46) rfl (by rw [he]; rfl) Try.underlying23
    rw [bytes_lawStep] at this
    exact this)
  have hcall : Calls Try.prog 3 #[.slice A0 l0.length c0, .slice A1 l1.length c1] W (Gives W (.bool true)) := walk W A0 c0 l0 A1 c1 l1 hr0 hn0 hr1 hn1
  refine hcall.mono fun e W' ⟨he, hb⟩ => ⟨_, he, ?_⟩
  exact law_post hW' rfl rfl rfl rfl rfl (by rw [Try.params3]; exact of_decide_eq_true (by kernel_rfl)) hb

set_option maxRecDepth 100000 in
theorem lifted (os : Os) (started : os.Started) (H : Type) (enc : TypeId × Value → H) :
    ReturnsInHanded {} Try.checked os 3 .any (Rows.fnExactHeapScriptIntsSpec.pre6 enc Try.prog Try.f3 Rows.fnExactHeapScriptIntsRow.domain false) (Rows.fnExactHeapScriptIntsSpec.post enc Try.prog Try.f3 false true false false) := by
  refine returnsInHanded_of_change_sized (C := Try.checked) own started (by kernel_rfl) Try.func3
    (ChangeSpec.witness6 (enc := enc) (C := Try.checked) false ⟨#[], #[.slice none 0 0, .slice none 0 0], []⟩ 8 (by kernel_rfl) (by kernel_rfl) (by kernel_rfl) (by kernel_rfl)) ?_
  intro W base args ds gs before hval hW _ hsz _
  exact contract H enc W base args ds gs before hval hW hsz

theorem proved : Rows.FnExactHeapScriptIntsSaid :=
  OpenClaim.holds_of_wide 3 Try.f3 rfl rfl rfl rfl rfl rfl rfl ⟨rfl, rfl, rfl, rfl, rfl⟩ rfl rfl rfl rfl rfl (by kernel_rfl) Try.func3 (by kernel_rfl)
    (of_decide_eq_true (by kernel_rfl)) (by unfold Func.isWrapper; first | (rw [if_pos (by decide +kernel)]; kernel_rfl) | (rw [if_neg (by decide +kernel)]; exact ⟨rfl, rfl⟩))
    (fun os started H enc _ => lifted os started H enc)
end Go.Proofs.Ytjojlnmcifkenaa.fnExactHeapScriptInts
