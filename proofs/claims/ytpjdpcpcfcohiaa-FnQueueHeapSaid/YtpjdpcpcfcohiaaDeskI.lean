/-
  impl.HeapQueueIndexes: what it returns. Conditions: memory holds the steps; they are within the reach of slices.
-/
import Derived.Test.YtpjdpcpcfcohiaaDeskL
namespace Go.Proofs.Ytpjdpcpcfcohiaa
open Go.RowKit Go.Shelf
open Hp (g swp Ev St ix nums QV ltQ qOut qRest pushed qHeap idxs aftD)

/-- What HeapQueueIndexes leaves. -/
def IdxP (w : World) (ss : List St) (e : Ending) (w' : World) : Prop :=
  ∃ a b A c A2 c2, (a = idxs (pushed ss) (qHeap ss) ∧ b = nums (qHeap ss)) ∧ e = .returned (.tuple #[.slice A a.length c, .slice A2 b.length c2]) ∧ w'.ownsRow w.heap.size 3 1 (.slice A a.length c) a.length (clsN a) ∧ w'.ownsRow w.heap.size 3 1 (.slice A2 b.length c2) b.length (clsN b) ∧ Below w.heap.size w w'

set_option maxHeartbeats 4000000 in
set_option maxRecDepth 100000 in
theorem indexes_law (w : World) (A : Option Addr) (n c : Nat) (ss : List St) (hl : n = ss.length) (hr : Rd w A (clsT ss)) (hn : ss.length + 1 ≤ 13194139537408) :
    Calls Try.prog 36 #[.slice A n c] w (IdxP w ss) := by
  subst hl
  have HS := Lib.hid (Way.start w ss)
  unfold DK at HS
  have HR := Lib.hid hr
  clear hr
  go_enter Try.func36, Try.ntmps36
  go_wp2
  go_loopw [17] (fun s17 wr => ∃ (k : Nat), s17 = .int .i64 (k : Int) ∧ k ≤ ss.length ∧ Aside (Way w w.heap.size ss k wr)) (fun s17 _ => ss.length - (intOf s17).toNat)
  case atStart => exact ⟨0, rfl, by omega, HS.out⟩
  case round =>
    obtain ⟨k, rfl, hk, hw⟩ := hrel
    have hb : Below w.heap.size w wr := by obtain ⟨_, _, _, _, _, _, _, _, hb, _⟩ := hw.out; exact hb
    have hsz := hb.size
    by_cases hlt : k < ss.length
    · obtain ⟨b, o, hAs, hbb, h1, h2, h3, h4⟩ := (HR.out.below hb (Nat.le_refl _)).atT k hlt
      subst hAs
      have hc := hw.out.step hlt hn (.cells #[.int .i64 (g ss k).1, .int .i64 (g ss k).2.1, .int .i64 (g ss k).2.2.1, .int .i64 (g ss k).2.2.2] 36)
      obtain ⟨⟨q, a, kk, t⟩, hx⟩ : ∃ s, g ss k = s := ⟨_, rfl⟩
      rw [hx] at h1 h2 h3 h4 hc
      have HC := Lib.hid hc
      clear hx hc hw hb
      go_wp2_with (go_at_call 39; refine HC.out.mono ?_; rintro e w2 ⟨rfl, hW2⟩)
      go_roundw
      case rel => exact ⟨k + 1, by go_num, by omega, hW2⟩
      case measure => simp [intOf]; omega
    · have hkl : k = ss.length := by omega
      subst hkl
      obtain ⟨vq, va, vo, E, K, L, O, hd, hb2, hEl, _, h3, h4, _⟩ := hw.out
      rw [List.take_length] at h3 h4
      rw [Hp.qMadeD] at h3
      have HL4 := Lib.hid (show L = qHeap ss from h4)
      have HE3 := Lib.hid h3
      have hLE := hd.ok.few
      obtain ⟨Aa, ca, hva⟩ := own_slice hd.base.all
      subst hva
      obtain ⟨Aq, cq, hvq⟩ := own_slice hd.q
      subst hvq
      obtain ⟨d0, d1, _, _⟩ := DK.cells hd.base.box
      have hltd := lt_of_block hd.base.box
      have HD := Lib.hid hd
      have HBO := Lib.hid hb2
      obtain ⟨wo, rfl⟩ : ∃ wo : World, wo = wr := ⟨_, rfl⟩
      clear hw hb hb2 hd h3 h4 HS HR
      go_wp2_with fail
      go_loopw [7, 30] (fun s7 s30 wr => ∃ (k : Nat) (A7 : Option Addr) (c7 : Nat), s30 = .int .i64 (k : Int) ∧ k ≤ E.length ∧ s7 = .slice A7 k c7 ∧ Aside (wr.ownsRow wo.heap.size 3 1 (.slice A7 k c7) k (clsN ((idxs E.length L).take k))) ∧ Below wo.heap.size wo wr)
        (fun _ s30 _ => E.length - (intOf s30).toNat)
      case atStart => exact ⟨0, none, 0, rfl, by omega, rfl, World.ownsRow_nil _ _ _ _, Below.refl _ _⟩
      case round =>
        obtain ⟨k, A7, c7, rfl, hk, rfl, hown, hb⟩ := hrel
        have hsz := hb.size
        by_cases hlt : k < E.length
        · obtain ⟨ga, ca', hva, hga, c1, hx⟩ := HD.out.entry hlt
          obtain ⟨rfl, rfl⟩ : Aa = some ⟨ga, 0, none⟩ ∧ ca = ca' := by
            injection hva with e1 _ e3
            exact ⟨e1, e3⟩
          obtain ⟨em, hem⟩ : ∃ em, em = g E k := ⟨_, rfl⟩
          rw [← hem] at c1 hx
          obtain ⟨_, _, x2, _⟩ := EC.cells hx
          have hlx := lt_of_block hx
          obtain ⟨y, hy⟩ : ∃ y, y = ix L (k : Int) := ⟨_, rfl⟩
          rw [← hy] at x2
          have C1 : wr.cell? ⟨ga, k, none⟩ = some (.pointer (some ⟨em, 0, none⟩)) := (hb.cell (p := ⟨ga, k, none⟩) hga).trans c1
          have X2 : wr.cell? ⟨em, 2, none⟩ = some (.int .i64 y) := (hb.cell (p := ⟨em, 2, none⟩) hlx).trans x2
          obtain ⟨Z, hZ⟩ : ∃ Z, Z = (idxs E.length L).take k := ⟨_, rfl⟩
          have hZl : Z.length = k := by rw [hZ, List.length_take, Hp.length_idxs]; omega
          have hz := heap_alloc_new wr (.cells #[.int .i64 y] 3)
          have hb3 := hb.alloc hsz (.cells #[.int .i64 y] 3)
          have ho3 : (wr.alloc (.cells #[.int .i64 y] 3)).ownsRow wo.heap.size 3 1 (.slice A7 k c7) Z.length (clsN Z) := by
            rw [hZl, hZ]
            exact hown.out.alloc _
          obtain ⟨A8, c8, w8, hrun, ho8, hg8, _⟩ := run_append_int Try.underlying38 ho3 y wr.heap.size hz (by rw [hZl]; omega) (by simp; omega) 38
          rw [hZl] at hrun ho8
          have HRUN := Lib.hid hrun
          have HO8 := Lib.hid (show w8.ownsRow wo.heap.size 3 1 (.slice A8 (k + 1) c8) (k + 1) (clsN ((idxs E.length L).take (k + 1))) by
            rw [take_succ_g (idxs E.length L) k (by rw [Hp.length_idxs]; exact hlt), Hp.idxs_at L hlt, ← hy, ← hZ]
            exact ho8)
          have HB8 := Lib.hid (hb3.grown hg8 hb3.size (fun j hj => (ho3.lt j hj).1))
          clear hva hem hx c1 x2 hy hZ hZl hz hb3 ho3 hrun ho8 hg8 hown hb d0 d1
          go_wp2_with (at_builtin; refine wpList_append_run rfl _ _ _ rfl _ _ _ _ rfl rfl HRUN.out ?_)
          go_roundw
          case rel => exact ⟨k + 1, A8, c8, by go_num, by omega, rfl, HO8.out, HB8.out⟩
          case measure => simp [intOf]; omega
        · have hkl : k = E.length := by omega
          subst hkl
          have ho := hown.out
          rw [List.take_of_length_le (by rw [Hp.length_idxs]; exact Nat.le_refl _)] at ho
          have HOA := Lib.hid ho
          have D0 : wr.cell? ⟨w.heap.size, 0, none⟩ = some (.slice Aq L.length cq) := (hb.cell (p := ⟨w.heap.size, 0, none⟩) hltd).trans d0
          have HBA := Lib.hid hb
          have hltd2 : w.heap.size < wr.heap.size := by omega
          obtain ⟨wp, rfl⟩ : ∃ wp : World, wp = wr := ⟨_, rfl⟩
          clear hown ho hb d0 d1
          go_wp2_with fail
          go_loopw [8, 47] (fun s8 s47 wr => ∃ (k : Nat) (A9 : Option Addr) (c9 : Nat), s47 = .int .i64 (k : Int) ∧ k ≤ L.length ∧ s8 = .slice A9 k c9 ∧ Aside (wr.ownsRow wp.heap.size 3 1 (.slice A9 k c9) k (clsN ((nums L).take k))) ∧ Below wp.heap.size wp wr)
            (fun _ s47 _ => L.length - (intOf s47).toNat)
          case atStart => exact ⟨0, none, 0, rfl, by omega, rfl, World.ownsRow_nil _ _ _ _, Below.refl _ _⟩
          case round =>
            obtain ⟨k, A9, c9, rfl, hk, rfl, hown, hb⟩ := hrel
            have hsz := hb.size
            by_cases hlt : k < L.length
            · obtain ⟨gq, hAq, _, hgq⟩ := own_addr HD.out.q (by omega)
              subst hAq
              obtain ⟨m, hm, hm2, hm3, hx⟩ := HD.out.ent.mem HD.out.ok rfl hlt
              have c1 := (HD.out.q.cellAt k (by omega)).trans (clsP_at E L k hlt)
              rw [hm3] at c1
              obtain ⟨em, hem⟩ : ∃ em, em = g E m := ⟨_, rfl⟩
              rw [← hem] at c1 hx
              unfold ptr at c1
              obtain ⟨_, x1, _, _⟩ := EC.cells hx
              have hlx := lt_of_block hx
              obtain ⟨y, hy⟩ : ∃ y, y = (g L k).2 := ⟨_, rfl⟩
              rw [← hy] at x1
              have C1 : wr.cell? ⟨gq, k, none⟩ = some (.pointer (some ⟨em, 0, none⟩)) := (hb.cell (p := ⟨gq, k, none⟩) (by show gq < _; have := HBA.out.size; omega)).trans ((HBA.out.cell (p := ⟨gq, k, none⟩) hgq).trans c1)
              have X1 : wr.cell? ⟨em, 1, none⟩ = some (.int .i64 y) := (hb.cell (p := ⟨em, 1, none⟩) (by show em < _; have := HBA.out.size; omega)).trans ((HBA.out.cell (p := ⟨em, 1, none⟩) hlx).trans x1)
              obtain ⟨Z, hZ⟩ : ∃ Z, Z = (nums L).take k := ⟨_, rfl⟩
              have hZl : Z.length = k := by rw [hZ, List.length_take]; simp; omega
              have hz := heap_alloc_new wr (.cells #[.int .i64 y] 3)
              have hb3 := hb.alloc hsz (.cells #[.int .i64 y] 3)
              have ho3 : (wr.alloc (.cells #[.int .i64 y] 3)).ownsRow wp.heap.size 3 1 (.slice A9 k c9) Z.length (clsN Z) := by
                rw [hZl, hZ]
                exact hown.out.alloc _
              obtain ⟨A8, c8, w8, hrun, ho8, hg8, _⟩ := run_append_int Try.underlying38 ho3 y wr.heap.size hz (by rw [hZl]; omega) (by simp; omega) 38
              rw [hZl] at hrun ho8
              have HRUN := Lib.hid hrun
              have HO8 := Lib.hid (show w8.ownsRow wp.heap.size 3 1 (.slice A8 (k + 1) c8) (k + 1) (clsN ((nums L).take (k + 1))) by
                have e : g (nums L) k = y := by rw [← Hp.g_eq (by simpa using hlt), Hp.nums_at hlt, hy]
                rw [take_succ_g (nums L) k (by simpa using hlt), e, ← hZ]
                exact ho8)
              have HB8 := Lib.hid (hb3.grown hg8 hb3.size (fun j hj => (ho3.lt j hj).1))
              clear hm hm2 hm3 hem hx c1 x1 hy hZ hZl hz hb3 ho3 hrun ho8 hg8 hown hb D0
              go_wp2_with (at_builtin; refine wpList_append_run rfl _ _ _ rfl _ _ _ _ rfl rfl HRUN.out ?_)
              go_roundw
              case rel => exact ⟨k + 1, A8, c8, by go_num, by omega, rfl, HO8.out, HB8.out⟩
              case measure => simp [intOf]; omega
            · have hkl : k = L.length := by omega
              subst hkl
              have ho := hown.out
              rw [List.take_of_length_le (by simp)] at ho
              have hfa := own_below HOA.out hb
              have hs1 := HBO.out.size
              have hs2 := HBA.out.size
              have hBZ := bnext (bnext HBO.out HBA.out) hb
              have hla : (idxs E.length L).length = E.length := Hp.length_idxs _ _
              have hlb : (nums L).length = L.length := by simp
              clear hown hb D0
              go_wp2
              go_ret2
              refine ⟨idxs E.length L, nums L, A7, c7, A9, c9, ⟨by rw [HE3.out, HL4.out], by rw [HL4.out]⟩, by rw [hla, hlb]; rfl, by rw [hla]; exact own_base hfa hs1, by rw [hlb]; exact own_base ho (by omega), hBZ⟩
end Go.Proofs.Ytpjdpcpcfcohiaa
