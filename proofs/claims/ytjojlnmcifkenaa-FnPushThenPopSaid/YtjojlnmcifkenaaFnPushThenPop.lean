/-
  FnPushThenPop returns true for every list of numbers and every number. Condition: the reach of a slice that every statement bears.
-/
import Derived.Test.YtjojlnmcifkenaaScriptL
import Derived.Test.YtjojlnmcifkenaaSortI
import Derived.Test.YtjojlnmcifkenaaOpen
namespace Go.Proofs.Ytjojlnmcifkenaa.fnPushThenPop
open Go.ChangeShapes Go.WideShapes Go.ChangeAt Go.RowKit Go.Shelf Go.Deep Go.Joins
open Hp (g swp Ev St plc)

theorem push_pop (x : List Int) (v : Int) (h : ∀ y ∈ x, v ≤ y) : Hp.outA (Hp.srt x) [(1, 0, v, 0), (2, 0, 0, 0)] = [v] ∧ Hp.aftA (Hp.srt x) [(1, 0, v, 0), (2, 0, 0, 0)] = Hp.srt x := by
  have hi : Hp.ins v (Hp.srt x) = v :: Hp.srt x := by
    cases hs : Hp.srt x with
    | nil => rfl
    | cons a m =>
      have ha : v ≤ a := h a ((Hp.perm_srt x).mem_iff.1 (by rw [hs]; simp))
      simp [Hp.ins, ha]
  simp [Hp.outA, Hp.aftA, Hp.stpA, hi]

set_option maxHeartbeats 2000000 in
set_option maxRecDepth 100000 in
theorem walk (w : World) (A : Option Addr) (c : Nat) (x : List Int) (v : Int) (hr : Rd w A (clsN x)) (hn : x.length * 8 ≤ 140737488351232) :
    Calls Try.prog 9 #[.slice A x.length c, .int .i64 v] w (Gives w (.bool true)) := by
  have HR := Lib.hid hr
  clear hr
  go_enter Try.func9, Try.ntmps9
  go_wp2_with fail
  go_loopw [11] (fun s11 wr => ∃ (k : Nat), s11 = .int .i64 (k : Int) ∧ k ≤ x.length ∧ wr = w ∧ Hid (∀ j, j < k → v ≤ g x j)) (fun s11 _ => x.length - (intOf s11).toNat)
  case atStart => exact ⟨0, rfl, by omega, rfl, fun j hj => by omega⟩
  case round =>
    obtain ⟨k, rfl, hk, rfl, HV⟩ := hrel
    by_cases hlt : k < x.length
    · obtain ⟨b, o, hA, hbb, h1⟩ := HR.out.atN k hlt
      subst hA
      obtain ⟨y, hy⟩ : ∃ y, g x k = y := ⟨_, rfl⟩
      rw [hy] at h1
      by_cases hyv : y < v
      · clear hy
        go_wp2
        go_ret
        exact ⟨rfl, Below.refl _ _⟩
      · have hyv' : v ≤ y := by omega
        have HV1 : Hid (∀ j, j < k + 1 → v ≤ g x j) := by
          intro j hj
          by_cases hjk : j = k
          · rw [hjk, hy]; exact hyv'
          · exact HV.out j (by omega)
        clear hy hyv
        go_wp2
        go_roundw
        case rel => exact ⟨k + 1, by go_num, by omega, trivial, HV1⟩
        case measure => simp [intOf]; omega
    · have hall : ∀ y ∈ x, v ≤ y := by
        intro y hy
        obtain ⟨j, hj, e⟩ := Hp.g_of_mem hy
        rw [← e]
        exact HV.out j (by omega)
      obtain ⟨e1, e2⟩ := push_pop x v hall
      have HE := Lib.hid (And.intro e1 e2)
      clear hall e1 e2
      have hb1 := (Below.refl wr.heap.size wr).alloc (Nat.le_refl _) (.cells #[.int .i64 1, .int .i64 0, .int .i64 v, .int .i64 0, .int .i64 2, .int .i64 0, .int .i64 0, .int .i64 0] 36)
      have hst1 : Rd (wr.alloc (.cells #[.int .i64 1, .int .i64 0, .int .i64 v, .int .i64 0, .int .i64 2, .int .i64 0, .int .i64 0, .int .i64 0] 36)) (some ⟨wr.heap.size, 0, none⟩) (clsT [(1, 0, v, 0), (2, 0, 0, 0)]) :=
        Rd.of_own (own_built (B := 0) (size := 4) (n := 2) (cs := #[.int .i64 1, .int .i64 0, .int .i64 v, .int .i64 0, .int .i64 2, .int .i64 0, .int .i64 0, .int .i64 0]) rfl (by decide) (by omega))
      have HC1 := Lib.hid (script_law _ A (some ⟨wr.heap.size, 0, none⟩) x.length c 2 2 x [(1, 0, v, 0), (2, 0, 0, 0)] rfl rfl (HR.out.below hb1 (Nat.le_refl _)) hst1 (by simp; omega))
      have HB1 := Lib.hid hb1
      clear hb1 hst1
      go_wp2_with fail
      refine HC1.out.mono ?_
      rintro e w1 ⟨a, b, A1, c1, A2, c2, ⟨ea, eb⟩, rfl, h1, h2, h3, h4⟩
      obtain ⟨e1, e2⟩ := HE.out
      rw [e1] at ea
      rw [e2] at eb
      have ha : ((a.length : Int) == 1) = true := by rw [ea]; rfl
      have hb : ((b.length : Int) == (x.length : Int)) = true := by rw [eb, Hp.length_srt]; simp
      have hbl : b.length ≤ x.length := by rw [eb, Hp.length_srt]; omega
      have ha0 : 0 < a.length := by rw [ea]; simp
      obtain ⟨ba, oa, hA1, hba, ca⟩ := (Rd.of_own h1).atN 0 ha0
      rw [show g a 0 = v by rw [ea]; rfl, Nat.add_zero] at ca
      subst hA1
      have HB2 := Lib.hid (bnext HB1.out h4)
      have HRB := Lib.hid (Rd.of_own h2)
      have hcs := heapSortInts_any w1 A x.length c x rfl (HR.out.below HB2.out (Nat.le_refl _)) (by omega)
      rw [← eb] at hcs
      have HCS := Lib.hid hcs
      clear e1 e2 ea eb h1 h2 h3 h4 HC1 hcs HE
      go_wp2_with fail
      refine HCS.out.mono ?_
      rintro e w4 ⟨A4, c4, rfl, ho4, hb4⟩
      have HB4 := Lib.hid hb4
      have HR4 := Lib.hid (Rd.of_own ho4)
      clear ho4 hb4 ca
      go_wp2_with fail
      refine (sameInts_eq w4 A2 A4 _ _ c2 c4 b rfl rfl (HRB.out.below HB4.out (Nat.le_refl _)) HR4.out (by omega)).mono ?_
      rintro e w6 ⟨rfl, hb6⟩
      have HB6 := Lib.hid (bnext (bnext HB2.out HB4.out) hb6)
      clear hb6
      go_wp2
      go_ret
      exact ⟨rfl, HB6.out⟩

theorem contract (H : Type) (enc : TypeId × Value → H) (W : World) (base : Nat) (args : Array Value) (ds gs : List (DataW H)) (before : List MemPlace)
    (hval : ∀ (j : Nat) t v, Try.f9.params[j]? = some t → args[j]? = some v → Value.okWide Try.prog W .any base t v)
    (hW : DataW.Whole enc Try.prog Try.f9.params.toList Rows.fnPushThenPopSpec.vars false W args.toList ds gs before)
    (hsz : (DataW.weightsEach Try.prog (Try.f9.params.toList ++ Rows.fnPushThenPopSpec.plain.varTypes Try.prog) (ds ++ gs)).all (· ≤ reachBytes) = true) :
    Calls Try.prog 9 args W fun e W' => ∃ v, e = .returned v ∧ Rows.fnPushThenPopSpec.post enc Try.prog Try.f9 false true false false W args v W' := by
  have hW' := hW
  obtain ⟨p, q, hA0, hV, rfl, _, _⟩ := hW
  have hA : DataW.TrodAll enc Try.prog W 0 (fun _ => true) true Try.f9.params.toList args.toList ds p := hA0
  rw [Try.params9] at hA hval hsz
  obtain ⟨v0, v1, d0, d1, p0, p1, rfl, rfl, rfl, h0, h1⟩ := trodAll_two hA
  obtain ⟨rfl, rfl⟩ := trodVars_none hV
  obtain ⟨A0, c0, l0, rfl, hr0, hn0⟩ := open_intsl (hval 0 22 v0 rfl rfl) h0 (fun elems spare he => by
    have := sized_slice hsz (j := 0) (t := 22) (e := 3) rfl (by rw [he]; rfl) Try.underlying22
    rw [bytes_int] at this
    exact this)
  obtain ⟨i1, rfl, rfl, rfl, wi1⟩ := open_int Try.underlying3 (hval 1 3 v1 rfl rfl) h1
  have hcall : Calls Try.prog 9 #[.slice A0 l0.length c0, .int .i64 i1] W (Gives W (.bool true)) := walk W A0 c0 l0 i1 hr0 hn0
  refine hcall.mono fun e W' ⟨he, hb⟩ => ⟨_, he, ?_⟩
  exact law_post hW' rfl rfl rfl rfl rfl (by rw [Try.params9]; exact of_decide_eq_true (by kernel_rfl)) hb

set_option maxRecDepth 100000 in
theorem lifted (os : Os) (started : os.Started) (H : Type) (enc : TypeId × Value → H) :
    ReturnsInHanded {} Try.checked os 9 .any (Rows.fnPushThenPopSpec.pre6 enc Try.prog Try.f9 Rows.fnPushThenPopRow.domain false) (Rows.fnPushThenPopSpec.post enc Try.prog Try.f9 false true false false) := by
  refine returnsInHanded_of_change_sized (C := Try.checked) own started (by kernel_rfl) Try.func9
    (ChangeSpec.witness6 (enc := enc) (C := Try.checked) false ⟨#[], #[.slice none 0 0, .int .i64 0], []⟩ 8 (by kernel_rfl) (by kernel_rfl) (by kernel_rfl) (by kernel_rfl)) ?_
  intro W base args ds gs before hval hW _ hsz _
  exact contract H enc W base args ds gs before hval hW hsz

theorem proved : Rows.FnPushThenPopSaid :=
  OpenClaim.holds_of_wide 9 Try.f9 rfl rfl rfl rfl rfl rfl rfl ⟨rfl, rfl, rfl, rfl, rfl⟩ rfl rfl rfl rfl rfl (by kernel_rfl) Try.func9 (by kernel_rfl)
    (of_decide_eq_true (by kernel_rfl)) (by unfold Func.isWrapper; first | (rw [if_pos (by decide +kernel)]; kernel_rfl) | (rw [if_neg (by decide +kernel)]; exact ⟨rfl, rfl⟩))
    (fun os started H enc _ => lifted os started H enc)
end Go.Proofs.Ytjojlnmcifkenaa.fnPushThenPop
