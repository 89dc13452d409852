/-
  The exact laws' functions on numbers: toIntS, eqIntS, markIntS, heldIntS. Conditions: memory holds the lists that they are handed.
-/
import Derived.Test.YtjojlnmcifkenaaNums
import Derived.Test.YtjojlnmcifkenaaExactS
namespace Go.Proofs.Ytjojlnmcifkenaa
open Go.RowKit Go.Shelf
open Hp (g swp Ev St plc)

theorem made_ints (n : Nat) : (madeCells #[.int .i64 0] n).toList = clsN (List.replicate n (0 : Int)) := by
  apply List.ext_getElem?
  intro j
  by_cases hj : j < n
  · have h1 : (clsN (List.replicate n (0 : Int)))[j]? = some (.int .i64 0) := by
      rw [clsN_at _ _ (by simpa using hj), ← Hp.g_eq (by simpa using hj)]
      simp
    rw [h1]
    have hz : (#[.int .i64 0] : Array Value)[j % 1]! = .int .i64 0 := by
      have : j % 1 = 0 := Nat.mod_one j
      rw [this]; rfl
    simp only [madeCells, Array.getElem?_toList, Array.getElem?_map]
    rw [Array.getElem?_eq_getElem (by simpa using hj)]
    simp only [Array.getElem_range, Option.map_some]
    exact congrArg some hz
  · rw [List.getElem?_eq_none (by rw [Array.length_toList, size_madeCells]; omega), List.getElem?_eq_none (by rw [length_clsN]; simpa using hj)]
/-- The first k numbers copied, the others zero. -/
def halfN (l : List Int) (k : Nat) : List Int := l.take k ++ List.replicate (l.length - k) 0
theorem length_halfN (l : List Int) (k : Nat) (h : k ≤ l.length) : (halfN l k).length = l.length := by simp [halfN]; omega
theorem halfN_succ (l : List Int) (k : Nat) (h : k < l.length) : (halfN l k).set k (g l k) = halfN l (k + 1) := by
  unfold halfN
  have e : (l.take k).length = k := by simp; omega
  have e2 : List.replicate (l.length - k) (0 : Int) = 0 :: List.replicate (l.length - (k + 1)) 0 := by
    rw [← List.replicate_succ]; congr 1; omega
  rw [List.set_append_right _ _ (by omega), e, Nat.sub_self, e2, List.set_cons_zero, take_succ_g l k h, List.append_assoc]
  rfl

set_option maxHeartbeats 1000000 in
set_option maxRecDepth 100000 in
theorem toIntS_any (w : World) (A : Option Addr) (n c : Nat) (l : List Int) (hl : n = l.length) (hr : Rd w A (clsN l)) (hn : l.length * 8 ≤ 140737488355328) :
    Calls Try.prog 13 #[.slice A n c] w (NewInts w l) := by
  subst hl
  obtain ⟨i0, hi, hz0, hz1, hz2⟩ := info_parts info_int
  go_enter Try.func13, Try.ntmps13
  go_wp2_with (with_reducible refine wpList_make_full _ rfl _ _ 22 rfl w.heap.size 3 i0 _ 1 Try.underlying22 hi hz0 hz1 .i64 .i64 _ _ l.length rfl rfl rfl rfl ?c1 ?c2 ?c3 ?_)
  case c1 => rw [hz2]; omega
  case c2 => simp only [maxLen]; omega
  case c3 => exact Nat.le_refl _
  intro w1 ho1 hg1
  rw [made_ints] at ho1
  have HB1 := Lib.hid ((Below.refl w.heap.size w).grown hg1 (Nat.le_refl _) (by simp))
  have ho2 : w1.ownsRow w.heap.size 3 1 (.slice (some ⟨w.heap.size, 0, none⟩) l.length l.length) l.length (clsN (halfN l 0)) := by simpa [halfN] using ho1
  have HO1 := Lib.hid ho2
  have HR := Lib.hid hr
  clear ho1 ho2 hg1 hr
  go_wp2_with fail
  go_loopw [4] (fun s4 wr => ∃ (k : Nat), s4 = .int .i64 (k : Int) ∧ k ≤ l.length ∧ Aside (wr.ownsRow w.heap.size 3 1 (.slice (some ⟨w.heap.size, 0, none⟩) l.length l.length) l.length (clsN (halfN l k))) ∧ Below w.heap.size w wr)
    (fun s4 _ => l.length - (intOf s4).toNat)
  case atStart => exact ⟨0, rfl, by omega, HO1.out, HB1.out⟩
  case round =>
    obtain ⟨k, rfl, hk, hown, hb⟩ := hrel
    have hsz := hb.size
    by_cases hlt : k < l.length
    · obtain ⟨b, o, hA, hbb, h1⟩ := (HR.out.below hb (Nat.le_refl _)).atN k hlt
      subst hA
      obtain ⟨y, hy⟩ : ∃ y, g l k = y := ⟨_, rfl⟩
      rw [hy] at h1
      have hlen := length_halfN l k hk
      have f := fun j => hown.out.frozenAt j
      have c0 := (hown.out.cellAt k (by omega)).trans (clsN_at (halfN l k) k (by omega))
      have hst := (hown.out.stored k (.int .i64 y)).1
      have hhs := halfN_succ l k hlt
      rw [hy] at hhs
      rw [← clsN_set, hhs] at hst
      have HST := Lib.hid hst
      have HB2 := Lib.hid (hb.setCell (p := ⟨w.heap.size, k, none⟩) (Nat.le_refl _) (.int .i64 y))
      clear hy hlen hst hown hb hhs
      go_wp2
      go_roundw
      case rel => exact ⟨k + 1, by go_num, by omega, HST.out, HB2.out⟩
      case measure => simp [intOf]; omega
    · go_wp2
      go_ret
      have hkl : k = l.length := by omega
      have ho := hown.out
      rw [hkl, show halfN l l.length = l by simp [halfN]] at ho
      exact ⟨_, _, rfl, ho, hb⟩

set_option maxHeartbeats 1000000 in
set_option maxRecDepth 100000 in
theorem eqIntS_eq (w : World) (A1 A2 : Option Addr) (n1 n2 c1 c2 : Nat) (l : List Int) (hl1 : n1 = l.length) (hl2 : n2 = l.length) (hr1 : Rd w A1 (clsN l)) (hr2 : Rd w A2 (clsN l)) (hn : l.length ≤ 26388279066624) :
    Calls Try.prog 16 #[.slice A1 n1 c1, .slice A2 n2 c2] w (Gives w (.bool true)) := by
  subst hl1
  subst hl2
  go_enter Try.func16, Try.ntmps16
  go_wp2
  go_loopw [5] (fun s5 wr => ∃ (k q : Nat), s5 = .int .i64 (k : Int) ∧ k ≤ l.length ∧ wr = w.drewN q) (fun s5 _ => l.length - (intOf s5).toNat)
  case atStart => exact ⟨0, 0, rfl, by omega, rfl⟩
  case round =>
    obtain ⟨k, q, rfl, hk, rfl⟩ := hrel
    by_cases hlt : k < l.length
    · obtain ⟨b, o, rfl, hbb, h1⟩ := hr1.atN k hlt
      obtain ⟨b', o', rfl, hbb', h1'⟩ := hr2.atN k hlt
      obtain ⟨y1, hy⟩ : ∃ y, g l k = y := ⟨_, rfl⟩
      rw [hy] at h1 h1'
      clear hy hr1 hr2
      go_wp2_with fail
      go_quiet (fail)
      go_wp2
      go_roundw
      case rel => exact ⟨k + 1, q + nq, by go_num, by omega, rfl⟩
      case measure => simp [intOf]; omega
    · go_wp2
      go_ret
      exact ⟨rfl, below_drewN (Below.refl _ _) _⟩

/-- Numbers that are marked from a number on. -/
def marksN (kk n : Nat) : List Int := (List.range n).map (fun (i : Nat) => ((kk + i : Nat) : Int))
theorem length_marksN (kk n : Nat) : (marksN kk n).length = n := by simp [marksN]
theorem marksN_at (kk n i : Nat) (h : i < n) : g (marksN kk n) i = ((kk + i : Nat) : Int) := by
  rw [← Hp.g_eq (by rw [length_marksN]; exact h)]
  simp [marksN]
theorem marksN_succ (kk n : Nat) : marksN kk (n + 1) = marksN kk n ++ [((kk + n : Nat) : Int)] := by
  unfold marksN
  rw [List.range_succ, List.map_append]
  rfl
theorem marksN_step {kk i : Nat} {l : List Int} (h : i < l.length) : (marksN kk i ++ l.drop i).set i ((kk + i : Nat) : Int) = marksN kk (i + 1) ++ l.drop (i + 1) := by
  have e : (marksN kk i).length = i := length_marksN _ _
  have e3 : l.drop i = g l i :: l.drop (i + 1) := by rw [← Hp.g_eq h]; exact List.drop_eq_getElem_cons h
  rw [e3, List.set_append_right _ _ (by omega), e, Nat.sub_self, List.set_cons_zero, marksN_succ, List.append_assoc]
  rfl

set_option maxHeartbeats 2000000 in
set_option maxRecDepth 100000 in
theorem markIntS_any (w : World) (B : Nat) (A : Option Addr) (n c : Nat) (l : List Int) (kk : Nat) (hl : n = l.length) (ho : w.ownsRow B 3 1 (.slice A n c) n (clsN l)) (hn : l.length ≤ 13194139537408) (hk : kk ≤ 13194139537408) :
    Calls Try.prog 18 #[.slice A n c, .int .i64 (kk : Int)] w fun e w' => e = .returned (.int .i64 ((kk + n : Nat) : Int)) ∧ w'.ownsRow B 3 1 (.slice A n c) n (clsN (marksN kk n)) ∧ w.grownBy w' (Value.slice A n c).ownBlock := by
  subst hl
  have HO := Lib.hid ho
  clear ho
  go_enter Try.func18, Try.ntmps18
  go_wp2
  go_loopw [1, 5] (fun s1 s5 wr => ∃ (i : Nat), s5 = .int .i64 (i : Int) ∧ i ≤ l.length ∧ s1 = .int .i64 ((kk + i : Nat) : Int) ∧ Aside (wr.ownsRow B 3 1 (.slice A l.length c) l.length (clsN (marksN kk i ++ l.drop i))) ∧ Aside (w.grownBy wr (Value.slice A l.length c).ownBlock)) (fun _ s5 _ => l.length - (intOf s5).toNat)
  case atStart => exact ⟨0, rfl, by omega, rfl, HO.out, World.grownBy.refl _ _⟩
  case round =>
    obtain ⟨i, rfl, hi, rfl, hown, hg⟩ := hrel
    by_cases hlt : i < l.length
    · obtain ⟨gb, hA, hgb1, hgb2⟩ := own_addr hown.out (by omega)
      subst hA
      have hfz := fun j => hown.out.frozenAt j
      obtain ⟨T, hT⟩ : ∃ T, T = marksN kk i ++ l.drop i := ⟨_, rfl⟩
      have hTl : T.length = l.length := by rw [hT, List.length_append, length_marksN, List.length_drop]; omega
      have hms := marksN_step (kk := kk) hlt
      have ho := hown.out
      rw [← hT] at ho hms
      have q1 := (ho.cellAt i (by omega)).trans (clsN_at T i (by omega))
      obtain ⟨z1, hz⟩ : ∃ z, g T i = z := ⟨_, rfl⟩
      rw [hz] at q1
      have hst := (ho.stored i (.int .i64 ((kk + i : Nat) : Int))).1
      rw [← clsN_set, hms] at hst
      obtain ⟨K, hK⟩ : ∃ K, K = kk + i := ⟨_, rfl⟩
      have hKs : K ≤ 100000000000000 := by omega
      have HK := Lib.hid hK
      rw [← hK] at hst ⊢
      have HN := Lib.hid hst
      have HG := Lib.hid (show w.grownBy (wr.setCell ⟨gb, i, none⟩ (.int .i64 (K : Int))) (some gb) from grown_set hg.out)
      clear hz hK hown hg ho hT hTl hms hst
      go_wp2
      go_roundw
      case rel => exact ⟨i + 1, by go_num, by omega, by congr 1; have := HK.out; omega, HN.out, HG.out⟩
      case measure => simp [intOf]; omega
    · go_wp2
      go_ret
      have hie : i = l.length := by omega
      subst hie
      have ho := hown.out
      rw [List.drop_length, List.append_nil] at ho
      exact ⟨rfl, ho, hg.out⟩

set_option maxHeartbeats 2000000 in
set_option maxRecDepth 100000 in
theorem heldIntS_any (w : World) (A : Option Addr) (n c kk : Nat) (hr : Rd w A (clsN (marksN kk n))) (hn : n ≤ 13194139537408) (hk : kk ≤ 13194139537408) :
    Calls Try.prog 20 #[.slice A n c, .int .i64 (kk : Int)] w (Gives w (.int .i64 ((kk + n : Nat) : Int))) := by
  have HR := Lib.hid hr
  clear hr
  go_enter Try.func20, Try.ntmps20
  go_wp2
  go_loopw [1, 5] (fun s1 s5 wr => ∃ (i : Nat), s5 = .int .i64 (i : Int) ∧ i ≤ n ∧ s1 = .int .i64 ((kk + i : Nat) : Int) ∧ wr = w) (fun _ s5 _ => n - (intOf s5).toNat)
  case atStart => exact ⟨0, rfl, by omega, rfl, rfl⟩
  case round =>
    obtain ⟨i, rfl, hi, rfl, rfl⟩ := hrel
    by_cases hlt : i < n
    · obtain ⟨b, o, hA, hbb, h1⟩ := HR.out.atN i (by rw [length_marksN]; exact hlt)
      subst hA
      rw [marksN_at kk n i hlt] at h1
      obtain ⟨K, hK⟩ : ∃ K, K = kk + i := ⟨_, rfl⟩
      have hKs : K ≤ 100000000000000 := by omega
      have HK := Lib.hid hK
      rw [← hK] at h1 ⊢
      clear hK
      go_wp2
      go_roundw
      case rel => exact ⟨i + 1, by go_num, by omega, by congr 1; have := HK.out; omega, trivial⟩
      case measure => simp [intOf]; omega
    · go_wp2
      go_ret
      have hie : i = n := by omega
      subst hie
      exact ⟨rfl, Below.refl _ _⟩
end Go.Proofs.Ytjojlnmcifkenaa
